import JvmDerived
import JvmDerived.Pilot.@@N@@Statement
import JvmDerived.Pilot.@@N@@Code
set_option linter.unusedVariables false
set_option linter.unusedSimpArgs false
/- laws to paste: Road.backV, Road.lenW, Road.codOf (cut by pick.py; bodies as the Statement names them) -/
namespace Jvm.Pilot.@@N@@
namespace StrChars
open Jvm Sem ClassFile Op Lib Jvm.Stand Jvm.Free.XT Jvm.Free.ALB Jvm.Free.JM Jvm.Free
open Jvm.Lib.Cold (StaticIs)
/-- a char array whose places are chars -/
def Ch (a : Addr) (A : Cell) (U : State) : Prop := Arr .char a A U ∧ Typed .char A
theorem Ch.mv {a : Addr} {A : Cell} {U U' : State} (h : Ch a A U) (hal : U.vm.Alike U'.vm) (hh : U'.heap = U.heap) : Ch a A U' := ⟨h.1.mv hal hh, h.2⟩
theorem Ch.keep {a : Addr} {A : Cell} {U U' : State} (h : Ch a A U) (hal : U.vm.Alike U'.vm) (hk : U'.heap[a]? = some A) : Ch a A U' := ⟨h.1.keep hal hk, h.2⟩
/-- what place i of a char[]'s cell holds -/
def cv (A : Cell) (i : Nat) : Int32 := match A.slots[i]? with | some (.int x) => x | _ => 0
theorem Ch.get {a : Addr} {A : Cell} {U : State} (h : Ch a A U) {i : Nat} (hi : i < A.slots.size) : A.slots[i]? = some (.int (cv A i)) := by
  have e := Array.getElem?_eq_getElem hi
  have f := h.2 i _ e
  unfold cv; rw [e]
  generalize A.slots[i] = v at f
  cases v <;> simp [fits] at f ⊢
/-- the byte that i2b leaves of a char -/
def lo8 (x : Int32) : Int32 := x.toInt8.toInt32
theorem fits_lo8 (y : Int32) : fits .byte (.int (lo8 y)) = true := by
  have h1 := y.toInt8.le_toInt
  have h2 := y.toInt8.toInt_lt
  simp only [lo8, fits, Bool.and_eq_true, decide_eq_true_eq, Int32.le_iff_toInt_le, Int8.toInt_toInt32, show (-128 : Int32).toInt = -128 from by decide, show (127 : Int32).toInt = 127 from by decide]
  omega
/-- A' is A but that each place j of lo .. hi - 1 holds f j -/
def Laid (A A' : Cell) (lo hi : Nat) (f : Nat → Value) : Prop := A'.cls = A.cls ∧ A'.vm = A.vm ∧ A'.slots.size = A.slots.size ∧ ∀ i, A'.slots[i]? = if lo ≤ i ∧ i < hi then some (f i) else A.slots[i]?
theorem Laid.zero (A : Cell) (lo : Nat) (f : Nat → Value) : Laid A A lo (lo + 0) f := ⟨rfl, rfl, rfl, fun i => by rw [if_neg (by omega)]⟩
theorem Laid.step {A Ak : Cell} {lo k : Nat} {f : Nat → Value} {v : Value} (h : Laid A Ak lo k f) (hlo : lo ≤ k) (hk : k < Ak.slots.size) (hv : v = f k) : Laid A (Ak.setSlot k v) lo (k + 1) f := by
  refine ⟨h.1, h.2.1, by simpa [Cell.setSlot] using h.2.2.1, fun i => ?_⟩
  by_cases e : k = i
  · subst e; rw [Cell.slots_setSlot_self v hk, if_pos (by omega), hv]
  · rw [Cell.slots_setSlot_ne v e, h.2.2.2 i]
    by_cases q : lo ≤ i ∧ i < k
    · rw [if_pos q, if_pos (by omega)]
    · rw [if_neg q, if_neg (by omega)]
def U16 : String := "java/lang/StringUTF16"
namespace Cmp5
def yN : MethodName := ⟨"java/lang/StringUTF16", "compress", "([CI[BII)I"⟩
abbrev yB : ByteArray := jdk_52_method_21_code
theorem d0 : decode yB 0 = .ok (.iconst 0, 1) := by decide +kernel
theorem d1 : decode yB 1 = .ok (.istore 5, 2) := by decide +kernel
theorem d3 : decode yB 3 = .ok (.iload 5, 2) := by decide +kernel
theorem d5 : decode yB 5 = .ok (.iload 4, 2) := by decide +kernel
theorem d7 : decode yB 7 = .ok (.if_icmp (.ge) 37, 3) := by decide +kernel
theorem d10 : decode yB 10 = .ok (.aload_n 0, 1) := by decide +kernel
theorem d11 : decode yB 11 = .ok (.iload_n 1, 1) := by decide +kernel
theorem d12 : decode yB 12 = .ok (.caload, 1) := by decide +kernel
theorem d13 : decode yB 13 = .ok (.istore 6, 2) := by decide +kernel
theorem d15 : decode yB 15 = .ok (.iload 6, 2) := by decide +kernel
theorem d17 : decode yB 17 = .ok (.sipush 255, 3) := by decide +kernel
theorem d20 : decode yB 20 = .ok (.if_icmp (.le) 6, 3) := by decide +kernel
theorem d26 : decode yB 26 = .ok (.aload_n 2, 1) := by decide +kernel
theorem d27 : decode yB 27 = .ok (.iload_n 3, 1) := by decide +kernel
theorem d28 : decode yB 28 = .ok (.iload 6, 2) := by decide +kernel
theorem d30 : decode yB 30 = .ok (.i2b, 1) := by decide +kernel
theorem d31 : decode yB 31 = .ok (.bastore, 1) := by decide +kernel
theorem d32 : decode yB 32 = .ok (.iinc 1 1, 3) := by decide +kernel
theorem d35 : decode yB 35 = .ok (.iinc 3 1, 3) := by decide +kernel
theorem d38 : decode yB 38 = .ok (.iinc 5 1, 3) := by decide +kernel
theorem d41 : decode yB 41 = .ok (.goto (-38), 3) := by decide +kernel
theorem d44 : decode yB 44 = .ok (.iload 4, 2) := by decide +kernel
theorem d46 : decode yB 46 = .ok (.ireturn, 1) := by decide +kernel
def site : List Cond := []
def tab : Cond := tabOf yN yB 7 (some .int) site
def P (b : Addr) (A : Cell) (d : Addr) (B : Cell) (o q len : Nat) (args : Array Value) (s : State) : Prop := args = #[.ref b, .int (Int32.ofNat o), .ref d, .int (Int32.ofNat q), .int (Int32.ofNat len)] ∧ Ch b A s ∧ Arr .byte d B s ∧ b ≠ d ∧ o + len ≤ A.slots.size ∧ q + len ≤ B.slots.size ∧ ∀ i, i < len → ¬ 255 < cv A (o + i)
def E (b : Addr) (A : Cell) (d : Addr) (B : Cell) (o q len : Nat) (r : Option Value) (s u : State) : Prop := r = some (.int (Int32.ofNat len)) ∧ ∃ B', Put d B' s u ∧ Laid B B' q (q + len) (fun j => Value.int (lo8 (cv A (o + (j - q)))))
/-- no char of the range above 255: len; the places written hold each char's low byte -/
theorem law (l : Launch) (b : Addr) (A : Cell) (d : Addr) (B : Cell) (o q len : Nat) : Law l yN 5 5 0 0 yB 7 (some .int) site (P b A d B o q len) (E b A d B o q len) (copyLocs d q len) 0 0 := by
  refine Law.of_walk (plainFor_of_name (by decide +kernel)) (by decide +kernel) (by decide +kernel) (by decide) (fun _ _ h => by rw [h.1]; rfl) (fun _ U U' hal hh h => ⟨h.1, h.2.1.mv hal hh, h.2.2.1.mv hal hh, h.2.2.2⟩) (fun r U U' V V' h1 hal h2 h => ⟨h.1, h.2.elim fun B' q => ⟨B', q.1.mv h1 h2, q.2⟩⟩) ?_
  intro p e s m args below meth c s₁ X0 hexec hbytes hml hret hlk hnm hown hh0 W hP
  obtain ⟨rfl, hA, hB, hne, l1, l2, hp⟩ := hP
  have c1 : Steps p.tables e below (s₁.setTop (entryFrame m #[.ref b, .int (Int32.ofNat o), .ref d, .int (Int32.ofNat q), .int (Int32.ofNat len)] 7)) (s₁.setTop (mkF m 0 #[.val (.ref b), .val (.int (Int32.ofNat o)), .val (.ref d), .val (.int (Int32.ofNat q)), .val (.int (Int32.ofNat len)), .unset, .unset] [])) := entry rfl
  have hA0 := hA.1.mv X0.warmed.alike hh0
  have hB0 := hB.mv X0.warmed.alike hh0
  have a31 := hA.1.2.2.2
  have c2 : Steps p.tables e below (s₁.setTop (entryFrame m #[.ref b, .int (Int32.ofNat o), .ref d, .int (Int32.ofNat q), .int (Int32.ofNat len)] 7)) (s₁.setTop (mkF m 3 #[.val (.ref b), .val (.int (Int32.ofNat o)), .val (.ref d), .val (.int (Int32.ofNat q)), .val (.int (Int32.ofNat len)), .val (.int 0), .unset] [])) := c1.trans (by
    refine iconstV X0.here hexec rfl 0 (hb hbytes d0) (by decide) ?_
    refine XS.istore X0.here hexec rfl (hb hbytes d1) rfl rfl ?_
    exact Steps.refl _)
  have loop : ∀ (r i : Nat), i + r = len → ∀ (z : Slot), (z = .unset ∨ ∃ w, z = .val w ∧ w.category = 1) → ∀ (Tl : State) (Bk : Cell), Stand p l e { frames := 0, locals := 0, cells := 0, slots := 0 } s m #[.ref b, .int (Int32.ofNat o), .ref d, .int (Int32.ofNat q), .int (Int32.ofNat len)] below meth c Tl ([] ++ copyLocs d q i) 0 0 → Put d Bk s₁ Tl → Laid B Bk q (q + i) (fun j => Value.int (lo8 (cv A (o + (j - q))))) →
      Steps p.tables e below (s₁.setTop (entryFrame m #[.ref b, .int (Int32.ofNat o), .ref d, .int (Int32.ofNat q), .int (Int32.ofNat len)] 7)) (Tl.setTop (mkF m 3 #[.val (.ref b), .val (.int (Int32.ofNat (o + i))), .val (.ref d), .val (.int (Int32.ofNat (q + i))), .val (.int (Int32.ofNat len)), .val (.int (Int32.ofNat i)), z] [])) → ∃ (T' : State) (B' : Cell) (z' : Slot), Stand p l e { frames := 0, locals := 0, cells := 0, slots := 0 } s m #[.ref b, .int (Int32.ofNat o), .ref d, .int (Int32.ofNat q), .int (Int32.ofNat len)] below meth c T' ([] ++ copyLocs d q len) 0 0 ∧ Put d B' s₁ T' ∧ Laid B B' q (q + len) (fun j => Value.int (lo8 (cv A (o + (j - q))))) ∧
      Steps p.tables e below (s₁.setTop (entryFrame m #[.ref b, .int (Int32.ofNat o), .ref d, .int (Int32.ofNat q), .int (Int32.ofNat len)] 7)) (T'.setTop (mkF m 3 #[.val (.ref b), .val (.int (Int32.ofNat (o + len))), .val (.ref d), .val (.int (Int32.ofNat (q + len))), .val (.int (Int32.ofNat len)), .val (.int (Int32.ofNat len)), z'] [])) := by
    intro r
    induction r with
    | zero =>
      intro i hi z hz Tl Bk Xl pl fl cl
      have hil : i = len := by omega
      rw [hil] at Xl fl cl
      exact ⟨Tl, Bk, z, Xl, pl, fl, cl⟩
    | succ r ih =>
      intro i hi z hz Tl Bk Xl pl fl cl
      have all := X0.warmed.alike.symm.trans Xl.warmed.alike
      have hAl := hA0.keep all (pl.other hne hA0.1)
      have hBk := hB0.like all pl.1 fl.1 fl.2.1 fl.2.2.1
      have hlt : q + i < Bk.slots.size := by rw [fl.2.2.1]; omega
      have c3 : Steps p.tables e below (s₁.setTop (entryFrame m #[.ref b, .int (Int32.ofNat o), .ref d, .int (Int32.ofNat q), .int (Int32.ofNat len)] 7)) (Tl.setTop (mkF m 12 #[.val (.ref b), .val (.int (Int32.ofNat (o + i))), .val (.ref d), .val (.int (Int32.ofNat (q + i))), .val (.int (Int32.ofNat len)), .val (.int (Int32.ofNat i)), z] [.int (Int32.ofNat (o + i)), .ref b])) := cl.trans (by
        refine XS.iload Xl.here hexec rfl (hb hbytes d3) rfl ?_
        refine XS.iload Xl.here hexec rfl (hb hbytes d5) rfl ?_
        refine XS.icmpNo Xl.here hexec rfl (hb hbytes d7) rfl (ii_ge_f (lt32 (by omega) (by omega))) ?_
        refine XS.aloadN Xl.here hexec rfl (hb hbytes d10) rfl rfl ?_
        refine XS.iloadN Xl.here hexec rfl (hb hbytes d11) rfl ?_
        exact Steps.refl _)
      have c4 : Steps p.tables e below (s₁.setTop (entryFrame m #[.ref b, .int (Int32.ofNat o), .ref d, .int (Int32.ofNat q), .int (Int32.ofNat len)] 7)) (Tl.setTop (mkF m 13 #[.val (.ref b), .val (.int (Int32.ofNat (o + i))), .val (.ref d), .val (.int (Int32.ofNat (q + i))), .val (.int (Int32.ofNat len)), .val (.int (Int32.ofNat i)), z] [.int (cv A (o + i))])) := c3.trans (by
        refine Xl.aget hexec hAl rfl (hA.get (i := o + i) (by omega)) rfl rfl (hb hbytes d12) ?_
        exact Steps.refl _)
      have c5 : Steps p.tables e below (s₁.setTop (entryFrame m #[.ref b, .int (Int32.ofNat o), .ref d, .int (Int32.ofNat q), .int (Int32.ofNat len)] 7)) (Tl.setTop (mkF m 15 #[.val (.ref b), .val (.int (Int32.ofNat (o + i))), .val (.ref d), .val (.int (Int32.ofNat (q + i))), .val (.int (Int32.ofNat len)), .val (.int (Int32.ofNat i)), .val (.int (cv A (o + i)))] [])) := c4.trans (by
        refine XS.istoreS Xl.here hexec rfl (hb hbytes d13) rfl rfl hz ?_
        exact Steps.refl _)
      have c6 : Steps p.tables e below (s₁.setTop (entryFrame m #[.ref b, .int (Int32.ofNat o), .ref d, .int (Int32.ofNat q), .int (Int32.ofNat len)] 7)) (Tl.setTop (mkF m 31 #[.val (.ref b), .val (.int (Int32.ofNat (o + i))), .val (.ref d), .val (.int (Int32.ofNat (q + i))), .val (.int (Int32.ofNat len)), .val (.int (Int32.ofNat i)), .val (.int (cv A (o + i)))] [.int (lo8 (cv A (o + i))), .int (Int32.ofNat (q + i)), .ref d])) := c5.trans (by
        refine XS.iload Xl.here hexec rfl (hb hbytes d15) rfl ?_
        refine sipushV Xl.here hexec rfl 255 (hb hbytes d17) (by decide) ?_
        refine XS.icmpYes Xl.here hexec rfl (pc0 := 20) rfl (hb hbytes d20) rfl (ii_le_t (hp i (by omega))) (by decide) rfl ?_
        refine XS.aloadN Xl.here hexec rfl (hb hbytes d26) rfl rfl ?_
        refine XS.iloadN Xl.here hexec rfl (hb hbytes d27) rfl ?_
        refine XS.iload Xl.here hexec rfl (hb hbytes d28) rfl ?_
        refine i2b Xl.here hexec rfl (hb hbytes d30) rfl ?_
        exact Steps.refl _)
      obtain ⟨T7, X7, p7, st7⟩ := Xl.aput hexec hBk rfl hlt rfl (fits_lo8 (cv A (o + i))) (g := (mkF m 31 #[.val (.ref b), .val (.int (Int32.ofNat (o + i))), .val (.ref d), .val (.int (Int32.ofNat (q + i))), .val (.int (Int32.ofNat len)), .val (.int (Int32.ofNat i)), .val (.int (cv A (o + i)))] [.int (lo8 (cv A (o + i))), .int (Int32.ofNat (q + i)), .ref d])) rfl (rest := []) rfl (hb hbytes d31)
      have c8 : Steps p.tables e below (s₁.setTop (entryFrame m #[.ref b, .int (Int32.ofNat o), .ref d, .int (Int32.ofNat q), .int (Int32.ofNat len)] 7)) (T7.setTop (mkF m 32 #[.val (.ref b), .val (.int (Int32.ofNat (o + i))), .val (.ref d), .val (.int (Int32.ofNat (q + i))), .val (.int (Int32.ofNat len)), .val (.int (Int32.ofNat i)), .val (.int (cv A (o + i)))] [])) := c6.trans (st7 _ (Steps.refl _))
      have c9 : Steps p.tables e below (s₁.setTop (entryFrame m #[.ref b, .int (Int32.ofNat o), .ref d, .int (Int32.ofNat q), .int (Int32.ofNat len)] 7)) (T7.setTop (mkF m 3 #[.val (.ref b), .val (.int (Int32.ofNat (o + i) + 1)), .val (.ref d), .val (.int (Int32.ofNat (q + i) + 1)), .val (.int (Int32.ofNat len)), .val (.int (Int32.ofNat i + 1)), .val (.int (cv A (o + i)))] [])) := c8.trans (by
        refine iincV X7.here hexec rfl 1 (hb hbytes d32) (by decide) rfl rfl ?_
        refine iincV X7.here hexec rfl 1 (hb hbytes d35) (by decide) rfl rfl ?_
        refine iincV X7.here hexec rfl 1 (hb hbytes d38) (by decide) rfl rfl ?_
        refine XS.goto X7.here hexec rfl (pc0 := 41) rfl (hb hbytes d41) (by decide) rfl ?_
        exact Steps.refl _)
      have c10 : Steps p.tables e below (s₁.setTop (entryFrame m #[.ref b, .int (Int32.ofNat o), .ref d, .int (Int32.ofNat q), .int (Int32.ofNat len)] 7)) (T7.setTop (mkF m 3 #[.val (.ref b), .val (.int (Int32.ofNat (o + (i + 1)))), .val (.ref d), .val (.int (Int32.ofNat (q + (i + 1)))), .val (.int (Int32.ofNat len)), .val (.int (Int32.ofNat (i + 1))), .val (.int (cv A (o + i)))] [])) := by
        have := c9
        rw [succ32, succ32, succ32] at this
        exact this
      exact ih (i + 1) (by omega) _ (Or.inr ⟨_, rfl, rfl⟩) T7 _ (by rw [copyLocs_step, ← List.append_assoc]; exact X7) (pl.trans p7) (fl.step (by omega) hlt (by simp)) c10
  obtain ⟨T9, B9, z9, X9, p9, f9, g9⟩ := loop len 0 (by omega) .unset (Or.inl rfl) s₁ B (by simpa [copyLocs] using X0) ⟨hB0.1, fun _ _ => rfl, rfl⟩ (Laid.zero _ _ _) c2
  have c11 : Steps p.tables e below (s₁.setTop (entryFrame m #[.ref b, .int (Int32.ofNat o), .ref d, .int (Int32.ofNat q), .int (Int32.ofNat len)] 7)) (T9.setTop (mkF m 46 #[.val (.ref b), .val (.int (Int32.ofNat (o + len))), .val (.ref d), .val (.int (Int32.ofNat (q + len))), .val (.int (Int32.ofNat len)), .val (.int (Int32.ofNat len)), z9] [.int (Int32.ofNat len)])) := g9.trans (by
    refine XS.iload X9.here hexec rfl (hb hbytes d3) rfl ?_
    refine XS.iload X9.here hexec rfl (hb hbytes d5) rfl ?_
    refine XS.icmpYes X9.here hexec rfl (pc0 := 7) rfl (hb hbytes d7) rfl (ii_ge_t (nlt32 (by omega) (Nat.le_refl _))) (by decide) rfl ?_
    refine XS.iload X9.here hexec rfl (hb hbytes d44) rfl ?_
    exact Steps.refl _)
  exact ⟨T9, some (.int (Int32.ofNat len)), _, _, _, X9, by simp, rfl, rfl, (fun h => by cases h), ⟨rfl, B9, p9.from hh0, f9⟩, fun fs hl => c11.trans (X9.ireturnOut hexec hret rfl (Or.inl rfl) (hb hbytes d46) hl)⟩
end Cmp5
namespace Cmp3
def yN : MethodName := ⟨"java/lang/StringUTF16", "compress", "([CII)[B"⟩
abbrev yB : ByteArray := jdk_52_method_16_code
theorem d0 : decode yB 0 = .ok (.iload_n 2, 1) := by decide +kernel
theorem d1 : decode yB 1 = .ok (.newarray .byte, 2) := by decide +kernel
theorem d3 : decode yB 3 = .ok (.astore_n 3, 1) := by decide +kernel
theorem d4 : decode yB 4 = .ok (.aload_n 0, 1) := by decide +kernel
theorem d5 : decode yB 5 = .ok (.iload_n 1, 1) := by decide +kernel
theorem d6 : decode yB 6 = .ok (.aload_n 3, 1) := by decide +kernel
theorem d7 : decode yB 7 = .ok (.iconst 0, 1) := by decide +kernel
theorem d8 : decode yB 8 = .ok (.iload_n 2, 1) := by decide +kernel
theorem d9 : decode yB 9 = .ok (.invokestatic 115, 3) := by decide +kernel
theorem d12 : decode yB 12 = .ok (.istore 4, 2) := by decide +kernel
theorem d14 : decode yB 14 = .ok (.iload 4, 2) := by decide +kernel
theorem d16 : decode yB 16 = .ok (.iload_n 2, 1) := by decide +kernel
theorem d17 : decode yB 17 = .ok (.if_icmp (.eq) 40, 3) := by decide +kernel
theorem d57 : decode yB 57 = .ok (.aload_n 3, 1) := by decide +kernel
theorem d58 : decode yB 58 = .ok (.areturn, 1) := by decide +kernel
def site : List Cond := [.arrayClass .byte, Cmp5.tab] ++ staticW U16 115 Cmp5.yN
def tab : Cond := tabOf yN yB 6 (some (.array .byte)) site
def P (b : Addr) (A : Cell) (o len : Nat) (args : Array Value) (s : State) : Prop := args = #[.ref b, .int (Int32.ofNat o), .int (Int32.ofNat len)] ∧ Ch b A s ∧ o + len ≤ A.slots.size ∧ len ≤ 536870912 ∧ ∀ i, i < len → ¬ 255 < cv A (o + i)
def E (b : Addr) (A : Cell) (o len : Nat) (r : Option Value) (s u : State) : Prop := NewArr .byte "[B" len (fun j => .int (lo8 (cv A (o + j)))) r s u ∧ u.heap.size = s.heap.size + 1
/-- no char of the range above 255: a new byte[] of their low bytes -/
theorem law (l : Launch) (b : Addr) (A : Cell) (o len : Nat) : Law l yN 3 3 1 18 yB 6 (some (.array .byte)) site (P b A o len) (E b A o len) [] 1 len := by
  refine Law.of_walk (plainFor_of_name (by decide +kernel)) (by decide +kernel) (by decide +kernel) (by decide) (fun _ _ h => by rw [h.1]; rfl) (fun _ U U' hal hh h => ⟨h.1, h.2.1.mv hal hh, h.2.2⟩) (fun r U U' V V' h1 hal h2 h => ⟨NewArr.mv r U U' V V' h1 hal h2 h.1, by rw [h1, h2]; exact h.2⟩) ?_
  intro p e s m args below meth c s₁ X0 hexec hbytes hml hret hlk hnm hown hh0 W hP
  obtain ⟨rfl, hA, l1, l2, hp⟩ := hP
  have a31 := hA.1.2.2.2
  have c1 : Steps p.tables e below (s₁.setTop (entryFrame m #[.ref b, .int (Int32.ofNat o), .int (Int32.ofNat len)] 6)) (s₁.setTop (mkF m 0 #[.val (.ref b), .val (.int (Int32.ofNat o)), .val (.int (Int32.ofNat len)), .unset, .unset, .unset] [])) := entry rfl
  have c2 : Steps p.tables e below (s₁.setTop (entryFrame m #[.ref b, .int (Int32.ofNat o), .int (Int32.ofNat len)] 6)) (s₁.setTop (mkF m 1 #[.val (.ref b), .val (.int (Int32.ofNat o)), .val (.int (Int32.ofNat len)), .unset, .unset, .unset] [.int (Int32.ofNat len)])) := c1.trans (by
    refine XS.iloadN X0.here hexec rfl (hb hbytes d0) rfl ?_
    exact Steps.refl _)
  obtain ⟨T3, B3, X3, ba3, bs3, bv3, bh3, bf3, st3⟩ := X0.anew hexec (atype := .byte) (wk W (.arrayClass .byte)) rfl (by show len * 1 ≤ _; omega) (by omega) (g := (mkF m 1 #[.val (.ref b), .val (.int (Int32.ofNat o)), .val (.int (Int32.ofNat len)), .unset, .unset, .unset] [.int (Int32.ofNat len)])) rfl (hb hbytes d1) (rest := []) rfl (Nat.le_refl _) (by show 0 + len ≤ len; omega)
  rw [hh0] at ba3 st3
  have kp3 : XT.Kept s T3 := (XT.Kept.of_eq hh0).push bh3
  have hA3 := hA.keep X3.warmed.alike (kp3 _ _ hA.1.1)
  have hne : b ≠ s.heap.size := hA.1.ne
  have c4 : Steps p.tables e below (s₁.setTop (entryFrame m #[.ref b, .int (Int32.ofNat o), .int (Int32.ofNat len)] 6)) (T3.setTop (mkF m 3 #[.val (.ref b), .val (.int (Int32.ofNat o)), .val (.int (Int32.ofNat len)), .unset, .unset, .unset] [.ref s.heap.size])) := c2.trans (st3 _ (Steps.refl _))
  have c5 : Steps p.tables e below (s₁.setTop (entryFrame m #[.ref b, .int (Int32.ofNat o), .int (Int32.ofNat len)] 6)) (T3.setTop (mkF m 9 #[.val (.ref b), .val (.int (Int32.ofNat o)), .val (.int (Int32.ofNat len)), .val (.ref s.heap.size), .unset, .unset] [.int (Int32.ofNat len), .int 0, .ref s.heap.size, .int (Int32.ofNat o), .ref b])) := c4.trans (by
    refine XS.astoreN X3.here hexec rfl (hb hbytes d3) rfl rfl rfl ?_
    refine XS.aloadN X3.here hexec rfl (hb hbytes d4) rfl rfl ?_
    refine XS.iloadN X3.here hexec rfl (hb hbytes d5) rfl ?_
    refine XS.aloadN X3.here hexec rfl (hb hbytes d6) rfl rfl ?_
    refine iconstV X3.here hexec rfl 0 (hb hbytes d7) (by decide) ?_
    refine XS.iloadN X3.here hexec rfl (hb hbytes d8) rfl ?_
    exact Steps.refl _)
  obtain ⟨v6, T6, X6, E6, g6⟩ := X3.callS hexec (Cmp5.law l b A s.heap.size B3 o 0 len) hown (wks W (staticW U16 115 Cmp5.yN)) (wk W Cmp5.tab) (W := 0) (Nat.le_of_ble_eq_true rfl) (Nat.le_of_ble_eq_true rfl) (Nat.le_refl _) (by show 0 + len + 0 ≤ len; omega) (g := (mkF m 9 #[.val (.ref b), .val (.int (Int32.ofNat o)), .val (.int (Int32.ofNat len)), .val (.ref s.heap.size), .unset, .unset] [.int (Int32.ofNat len), .int (Int32.ofNat 0), .ref s.heap.size, .int (Int32.ofNat o), .ref b])) rfl (by rw [hml]; rfl) c5 (argsL := [.ref b, .int (Int32.ofNat o), .ref s.heap.size, .int (Int32.ofNat 0), .int (Int32.ofNat len)]) (rest := []) rfl rfl (by show 2 * 0 + 0 ≤ _; decide) (hb hbytes d9) (⟨rfl, hA3, ba3, hne, l1, by rw [bs3]; simp, hp⟩)
  obtain ⟨rfl, B6, p6, f6⟩ := E6
  have c7 : Steps p.tables e below (s₁.setTop (entryFrame m #[.ref b, .int (Int32.ofNat o), .int (Int32.ofNat len)] 6)) (T6.setTop (mkF m 12 #[.val (.ref b), .val (.int (Int32.ofNat o)), .val (.int (Int32.ofNat len)), .val (.ref s.heap.size), .unset, .unset] [.int (Int32.ofNat len)])) := g6
  have c8 : Steps p.tables e below (s₁.setTop (entryFrame m #[.ref b, .int (Int32.ofNat o), .int (Int32.ofNat len)] 6)) (T6.setTop (mkF m 58 #[.val (.ref b), .val (.int (Int32.ofNat o)), .val (.int (Int32.ofNat len)), .val (.ref s.heap.size), .val (.int (Int32.ofNat len)), .unset] [.ref s.heap.size])) := c7.trans (by
    refine XS.istore X6.here hexec rfl (hb hbytes d12) rfl rfl ?_
    refine XS.iload X6.here hexec rfl (hb hbytes d14) rfl ?_
    refine XS.iloadN X6.here hexec rfl (hb hbytes d16) rfl ?_
    refine XS.icmpYes X6.here hexec rfl (pc0 := 17) rfl (hb hbytes d17) rfl (ii_eq_t rfl) (by decide) rfl ?_
    refine XS.aloadN X6.here hexec rfl (hb hbytes d57) rfl rfl ?_
    exact Steps.refl _)
  have X8 := X6.wide (L' := []) (cells' := 1) (slots' := len) (fun x hx hlt => by
    simp only [List.nil_append, copyLocs, List.mem_map, List.mem_range] at hx
    obtain ⟨i, -, rfl⟩ := hx
    exact absurd hlt (Nat.lt_irrefl _)) (Nat.le_refl _) (by omega)
  exact ⟨T6, some (.ref s.heap.size), _, _, _, X8, rfl, rfl, rfl, (fun h => by cases h), ⟨⟨rfl, B6, ba3.like (X3.warmed.alike.symm.trans X6.warmed.alike) p6.1 f6.1 f6.2.1 f6.2.2.1, f6.2.1.trans bv3, by rw [X6.warmed.alike.findClass, f6.1]; exact bf3, by rw [f6.2.2.1, bs3]; simp, fun j hj => by rw [f6.2.2.2 j, if_pos (by omega)]; rfl, kp3.put p6 (Nat.le_refl _)⟩, by rw [p6.2.2, bh3, hh0]; simp⟩, fun fs hl => c8.trans (X8.areturnOut hexec rfl hret rfl (hb hbytes d58) hl)⟩
end Cmp3
namespace CodL
def yN : MethodName := ⟨"java/lang/StringUTF16", "coderFromArrayLen", "([BI)B"⟩
abbrev yB : ByteArray := jdk_52_method_15_code
theorem d0 : decode yB 0 = .ok (.iload_n 1, 1) := by decide +kernel
theorem d1 : decode yB 1 = .ok (.aload_n 0, 1) := by decide +kernel
theorem d2 : decode yB 2 = .ok (.arraylength, 1) := by decide +kernel
theorem d3 : decode yB 3 = .ok (.isub, 1) := by decide +kernel
theorem d4 : decode yB 4 = .ok (.bipush 31, 2) := by decide +kernel
theorem d6 : decode yB 6 = .ok (.iushr, 1) := by decide +kernel
theorem d7 : decode yB 7 = .ok (.i2b, 1) := by decide +kernel
theorem d8 : decode yB 8 = .ok (.ireturn, 1) := by decide +kernel
def site : List Cond := []
def tab : Cond := tabOf yN yB 2 (some .byte) site
def P (d : Addr) (B : Cell) (args : Array Value) (s : State) : Prop := args = #[.ref d, .int (Int32.ofNat B.slots.size)] ∧ Arr .byte d B s
def E (r : Option Value) (s u : State) : Prop := XT.PureE (some (.int 0)) r s u
/-- an array as long as the number of chars: LATIN1 -/
theorem law (l : Launch) (d : Addr) (B : Cell) : Law l yN 2 2 0 0 yB 2 (some .byte) site (P d B) E [] 0 0 := by
  refine Law.of_walk (plainFor_of_name (by decide +kernel)) (by decide +kernel) (by decide +kernel) (by decide) (fun _ _ h => by rw [h.1]; rfl) (fun _ U U' hal hh h => ⟨h.1, h.2.mv hal hh⟩) (fun r U U' V V' h1 hal h2 h => XT.PureE.mv r U U' V V' h1 hal h2 h) ?_
  intro p e s m args below meth c s₁ X0 hexec hbytes hml hret hlk hnm hown hh0 W hP
  obtain ⟨rfl, hB⟩ := hP
  have hB0 := hB.mv X0.warmed.alike hh0
  have c1 : Steps p.tables e below (s₁.setTop (entryFrame m #[.ref d, .int (Int32.ofNat B.slots.size)] 2)) (s₁.setTop (mkF m 0 #[.val (.ref d), .val (.int (Int32.ofNat B.slots.size))] [])) := entry rfl
  have c2 : Steps p.tables e below (s₁.setTop (entryFrame m #[.ref d, .int (Int32.ofNat B.slots.size)] 2)) (s₁.setTop (mkF m 2 #[.val (.ref d), .val (.int (Int32.ofNat B.slots.size))] [.ref d, .int (Int32.ofNat B.slots.size)])) := c1.trans (by
    refine XS.iloadN X0.here hexec rfl (hb hbytes d0) rfl ?_
    refine XS.aloadN X0.here hexec rfl (hb hbytes d1) rfl rfl ?_
    exact Steps.refl _)
  have c3 : Steps p.tables e below (s₁.setTop (entryFrame m #[.ref d, .int (Int32.ofNat B.slots.size)] 2)) (s₁.setTop (mkF m 8 #[.val (.ref d), .val (.int (Int32.ofNat B.slots.size))] [.int (lo8 (ushr (Int32.ofNat B.slots.size - Int32.ofNat B.slots.size) 31))])) := c2.trans (by
    refine X0.alen hexec hB0 rfl rfl (hb hbytes d2) ?_
    refine XS.isub X0.here hexec rfl (hb hbytes d3) rfl ?_
    refine bipushV X0.here hexec rfl 31 (hb hbytes d4) (by decide) ?_
    refine iushr X0.here hexec rfl (hb hbytes d6) rfl ?_
    refine i2b X0.here hexec rfl (hb hbytes d7) rfl ?_
    exact Steps.refl _)
  have e0 : lo8 (ushr (Int32.ofNat B.slots.size - Int32.ofNat B.slots.size) 31) = 0 := by rw [Int32.sub_self]; decide
  rw [e0] at c3
  exact ⟨s₁, some (.int 0), _, _, _, X0, rfl, rfl, rfl, (fun h => by cases h), ⟨rfl, hh0⟩, fun fs hl => c3.trans (X0.ireturnOut hexec hret rfl (Or.inr (Or.inr (Or.inl rfl))) (hb hbytes d8) hl)⟩
end CodL
/-- the String at a is Latin-1 over a new byte[] (the heap's one new cell): the low bytes of the len chars of A from o on; every cell but a is kept -/
def Got (a : Addr) (D : Cell) (fV fC : Field) (A : Cell) (o len : Nat) (r : Option Value) (s u : State) : Prop := r = none ∧ ∃ D' V : Cell, Blank "java/lang/String" a D' u ∧ Same D D' [fV.slot, fC.slot] ∧ D'.slots[fV.slot]? = some (.ref s.heap.size) ∧ D'.slots[fC.slot]? = some (.int 0) ∧ Arr .byte s.heap.size V u ∧ V.vm = .none ∧ u.vm.findClass "[B" = some V.cls ∧ V.slots.size = len ∧ (∀ j, j < len → V.slots[j]? = some (.int (lo8 (cv A (o + j))))) ∧ (∀ (y : Addr) (c : Cell), y ≠ a → s.heap[y]? = some c → u.heap[y]? = some c) ∧ u.heap.size = s.heap.size + 1
theorem Got.mv {a : Addr} {D A : Cell} {fV fC : Field} {o len : Nat} : ∀ r (U U' V V' : State), U'.heap = U.heap → V.vm.Alike V'.vm → V'.heap = V.heap → Got a D fV fC A o len r U V → Got a D fV fC A o len r U' V' :=
  fun r U U' V V' h1 hal h2 ⟨e0, D', X, a1, a2, a3, a4, a5, a6, a7, a8, a9, a10, a11⟩ => ⟨e0, D', X, a1.mv hal h2, a2, by rw [h1]; exact a3, a4, by rw [h1]; exact a5.mv hal h2, a6, by rw [hal.findClass]; exact a7, a8, a9, by rw [h1, h2]; exact a10, by rw [h1, h2]; exact a11⟩
namespace New4
def yN : MethodName := ⟨"java/lang/String", "<init>", "([CIILjava/lang/Void;)V"⟩
abbrev yB : ByteArray := jdk_42_method_149_code
theorem d0 : decode yB 0 = .ok (.aload_n 0, 1) := by decide +kernel
theorem d1 : decode yB 1 = .ok (.invokespecial 1, 3) := by decide +kernel
theorem d4 : decode yB 4 = .ok (.iload_n 3, 1) := by decide +kernel
theorem d5 : decode yB 5 = .ok (.ifCond (.ne) 22, 3) := by decide +kernel
theorem d27 : decode yB 27 = .ok (.getstatic 38, 3) := by decide +kernel
theorem d30 : decode yB 30 = .ok (.ifCond (.eq) 28, 3) := by decide +kernel
theorem d33 : decode yB 33 = .ok (.aload_n 1, 1) := by decide +kernel
theorem d34 : decode yB 34 = .ok (.iload_n 2, 1) := by decide +kernel
theorem d35 : decode yB 35 = .ok (.iload_n 3, 1) := by decide +kernel
theorem d36 : decode yB 36 = .ok (.invokestatic 177, 3) := by decide +kernel
theorem d39 : decode yB 39 = .ok (.astore 5, 2) := by decide +kernel
theorem d41 : decode yB 41 = .ok (.aload_n 0, 1) := by decide +kernel
theorem d42 : decode yB 42 = .ok (.aload 5, 2) := by decide +kernel
theorem d44 : decode yB 44 = .ok (.iload_n 3, 1) := by decide +kernel
theorem d45 : decode yB 45 = .ok (.invokestatic 47, 3) := by decide +kernel
theorem d48 : decode yB 48 = .ok (.putfield 15, 3) := by decide +kernel
theorem d51 : decode yB 51 = .ok (.aload_n 0, 1) := by decide +kernel
theorem d52 : decode yB 52 = .ok (.aload 5, 2) := by decide +kernel
theorem d54 : decode yB 54 = .ok (.putfield 9, 3) := by decide +kernel
theorem d57 : decode yB 57 = .ok (.return_, 1) := by decide +kernel
def site : List Cond := [.fieldLink "java/lang/String" 38 "java/lang/String" "COMPACT_STRINGS" "Z", Cmp3.tab, CodL.tab, .laysFinal "java/lang/String" "java/lang/String" "value" "[B", .fieldLink "java/lang/String" 9 "java/lang/String" "value" "[B", .laysFinal "java/lang/String" "java/lang/String" "coder" "B", .fieldLink "java/lang/String" 15 "java/lang/String" "coder" "B"] ++ objW "java/lang/String" 1 ++ staticW "java/lang/String" 177 Cmp3.yN ++ staticW "java/lang/String" 47 CodL.yN
def tab : Cond := tabOf yN yB 6 none site
def P (a : Addr) (D : Cell) (fV fC : Field) (b : Addr) (A : Cell) (z : Int32) (o len : Nat) (args : Array Value) (s : State) : Prop := args = #[.ref a, .ref b, .int (Int32.ofNat o), .int (Int32.ofNat len), .null] ∧ Blank "java/lang/String" a D s ∧ Found "java/lang/String" "value" "[B" fV s ∧ Found "java/lang/String" "coder" "B" fC s ∧ Ch b A s ∧ StaticIs s "java/lang/String" "COMPACT_STRINGS" "Z" (.int z) ∧ ¬ z = 0 ∧ 0 < len ∧ o + len ≤ A.slots.size ∧ len ≤ 536870912 ∧ ∀ i, i < len → ¬ 255 < cv A (o + i)
def E (a : Addr) (D : Cell) (fV fC : Field) (A : Cell) (o len : Nat) (r : Option Value) (s u : State) : Prop := Got a D fV fC A o len r s u
/-- len > 0, no char of the range above 255: a Latin-1 String of their low bytes -/
theorem law (l : Launch) (a : Addr) (D : Cell) (fV fC : Field) (b : Addr) (A : Cell) (z : Int32) (o len : Nat) : Law l yN 5 4 2 35 yB 6 none site (P a D fV fC b A z o len) (E a D fV fC A o len) [⟨a, fC.slot⟩, ⟨a, fV.slot⟩] 1 len := by
  refine Law.of_walk (plainFor_of_name (by decide +kernel)) (by decide +kernel) (by decide +kernel) (by decide) (fun _ _ h => by rw [h.1]; rfl) (fun _ U U' hal hh h => ⟨h.1, h.2.1.mv hal hh, h.2.2.1.al hal, h.2.2.2.1.al hal, h.2.2.2.2.1.mv hal hh, h.2.2.2.2.2.1.there hal hh, h.2.2.2.2.2.2⟩) (fun r U U' V V' h1 hal h2 h => Got.mv r U U' V V' h1 hal h2 h) ?_
  intro p e s m args below meth c s₁ X0 hexec hbytes hml hret hlk hnm hown hh0 W hP
  obtain ⟨rfl, hB, f1, f2, hA, s1, hz, l0, l1, l2, hp⟩ := hP
  have a31 := hA.1.2.2.2
  have c1 : Steps p.tables e below (s₁.setTop (entryFrame m #[.ref a, .ref b, .int (Int32.ofNat o), .int (Int32.ofNat len), .null] 6)) (s₁.setTop (mkF m 0 #[.val (.ref a), .val (.ref b), .val (.int (Int32.ofNat o)), .val (.int (Int32.ofNat len)), .val .null, .unset] [])) := entry rfl
  have c2 : Steps p.tables e below (s₁.setTop (entryFrame m #[.ref a, .ref b, .int (Int32.ofNat o), .int (Int32.ofNat len), .null] 6)) (s₁.setTop (mkF m 1 #[.val (.ref a), .val (.ref b), .val (.int (Int32.ofNat o)), .val (.int (Int32.ofNat len)), .val .null, .unset] [.ref a])) := c1.trans (by
    refine XS.aloadN X0.here hexec rfl (hb hbytes d0) rfl rfl ?_
    exact Steps.refl _)
  obtain ⟨T3, X3, q3, st3⟩ := X0.oinit hexec hown (wks W (objW "java/lang/String" 1)) (g := (mkF m 1 #[.val (.ref a), .val (.ref b), .val (.int (Int32.ofNat o)), .val (.int (Int32.ofNat len)), .val .null, .unset] [.ref a])) rfl (by rw [hml]; rfl) (rest := []) rfl (hb hbytes d1) (W := 0) (by show 2 * 0 + 0 ≤ _; decide) (Nat.le_of_ble_eq_true rfl) (Nat.le_of_ble_eq_true rfl)
  have hh3 := q3.trans hh0
  have c4 : Steps p.tables e below (s₁.setTop (entryFrame m #[.ref a, .ref b, .int (Int32.ofNat o), .int (Int32.ofNat len), .null] 6)) (T3.setTop (mkF m 27 #[.val (.ref a), .val (.ref b), .val (.int (Int32.ofNat o)), .val (.int (Int32.ofNat len)), .val .null, .unset] [])) := (c2.trans (st3 _ (Steps.refl _))).trans (by
    refine XS.iloadN X3.here hexec rfl (hb hbytes d4) rfl ?_
    refine XS.ifYes X3.here hexec rfl (pc0 := 5) rfl (hb hbytes d5) rfl (i0_ne_t (nz32 (by omega) l0)) (by decide) rfl ?_
    exact Steps.refl _)
  obtain ⟨T5, X5, q5, st5⟩ := X3.sget hexec hown (wk W (.fieldLink "java/lang/String" 38 "java/lang/String" "COMPACT_STRINGS" "Z")) s1 (fun _ _ h => by rw [hh3]; exact h) (g := (mkF m 27 #[.val (.ref a), .val (.ref b), .val (.int (Int32.ofNat o)), .val (.int (Int32.ofNat len)), .val .null, .unset] [])) rfl (hb hbytes d27)
  have hh5 := q5.trans hh3
  have c6 : Steps p.tables e below (s₁.setTop (entryFrame m #[.ref a, .ref b, .int (Int32.ofNat o), .int (Int32.ofNat len), .null] 6)) (T5.setTop (mkF m 30 #[.val (.ref a), .val (.ref b), .val (.int (Int32.ofNat o)), .val (.int (Int32.ofNat len)), .val .null, .unset] [.int z])) := c4.trans (st5 _ (Steps.refl _))
  have c7 : Steps p.tables e below (s₁.setTop (entryFrame m #[.ref a, .ref b, .int (Int32.ofNat o), .int (Int32.ofNat len), .null] 6)) (T5.setTop (mkF m 36 #[.val (.ref a), .val (.ref b), .val (.int (Int32.ofNat o)), .val (.int (Int32.ofNat len)), .val .null, .unset] [.int (Int32.ofNat len), .int (Int32.ofNat o), .ref b])) := c6.trans (by
    refine XS.ifNo X5.here hexec rfl (hb hbytes d30) rfl (i0_eq_f hz) ?_
    refine XS.aloadN X5.here hexec rfl (hb hbytes d33) rfl rfl ?_
    refine XS.iloadN X5.here hexec rfl (hb hbytes d34) rfl ?_
    refine XS.iloadN X5.here hexec rfl (hb hbytes d35) rfl ?_
    exact Steps.refl _)
  obtain ⟨v8, T8, X8, E8, g8⟩ := X5.callS hexec (Cmp3.law l b A o len) hown (wks W (staticW "java/lang/String" 177 Cmp3.yN)) (wk W Cmp3.tab) (W := 0) (Nat.le_of_ble_eq_true rfl) (Nat.le_of_ble_eq_true rfl) (Nat.le_refl _) (by show 0 + len ≤ len; omega) (g := (mkF m 36 #[.val (.ref a), .val (.ref b), .val (.int (Int32.ofNat o)), .val (.int (Int32.ofNat len)), .val .null, .unset] [.int (Int32.ofNat len), .int (Int32.ofNat o), .ref b])) rfl (by rw [hml]; rfl) c7 (argsL := [.ref b, .int (Int32.ofNat o), .int (Int32.ofNat len)]) (rest := []) rfl rfl (by show 2 * 0 + 0 ≤ _; decide) (hb hbytes d36) (⟨rfl, hA.mv X5.warmed.alike hh5, l1, l2, hp⟩)
  obtain ⟨e8, z8⟩ := E8
  obtain ⟨rfl, N, n1, n2, n3, n4, n5, n6⟩ := NewArr.mv _ T5 s _ _ hh5.symm (Vm.Alike.refl _) rfl e8
  rw [hh5] at z8
  have hB1 := hB.keep X8.warmed.alike (n6 _ _ hB.1)
  have hne : s.heap.size ≠ a := (Nat.ne_of_lt (Array.getElem?_eq_some_iff.mp hB.1).1).symm
  have c9 : Steps p.tables e below (s₁.setTop (entryFrame m #[.ref a, .ref b, .int (Int32.ofNat o), .int (Int32.ofNat len), .null] 6)) (T8.setTop (mkF m 39 #[.val (.ref a), .val (.ref b), .val (.int (Int32.ofNat o)), .val (.int (Int32.ofNat len)), .val .null, .unset] [.ref s.heap.size])) := g8
  have c10 : Steps p.tables e below (s₁.setTop (entryFrame m #[.ref a, .ref b, .int (Int32.ofNat o), .int (Int32.ofNat len), .null] 6)) (T8.setTop (mkF m 45 #[.val (.ref a), .val (.ref b), .val (.int (Int32.ofNat o)), .val (.int (Int32.ofNat len)), .val .null, .val (.ref s.heap.size)] [.int (Int32.ofNat N.slots.size), .ref s.heap.size, .ref a])) := by
    have hc : Steps p.tables e below (s₁.setTop (entryFrame m #[.ref a, .ref b, .int (Int32.ofNat o), .int (Int32.ofNat len), .null] 6)) (T8.setTop (mkF m 45 #[.val (.ref a), .val (.ref b), .val (.int (Int32.ofNat o)), .val (.int (Int32.ofNat len)), .val .null, .val (.ref s.heap.size)] [.int (Int32.ofNat len), .ref s.heap.size, .ref a])) := c9.trans (by
      refine XS.astore X8.here hexec rfl (hb hbytes d39) rfl rfl rfl ?_
      refine XS.aloadN X8.here hexec rfl (hb hbytes d41) rfl rfl ?_
      refine XS.aload X8.here hexec rfl (hb hbytes d42) rfl rfl ?_
      refine XS.iloadN X8.here hexec rfl (hb hbytes d44) rfl ?_
      exact Steps.refl _)
    rw [n4]; exact hc
  obtain ⟨v11, T11, X11, E11, g11⟩ := X8.callS hexec (CodL.law l s.heap.size N) hown (wks W (staticW "java/lang/String" 47 CodL.yN)) (wk W CodL.tab) (W := 1) (Nat.le_of_ble_eq_true rfl) (Nat.le_of_ble_eq_true rfl) (Nat.le_refl _) (by show 0 + len + 0 ≤ len; omega) (g := (mkF m 45 #[.val (.ref a), .val (.ref b), .val (.int (Int32.ofNat o)), .val (.int (Int32.ofNat len)), .val .null, .val (.ref s.heap.size)] [.int (Int32.ofNat N.slots.size), .ref s.heap.size, .ref a])) rfl (by rw [hml]; rfl) c10 (argsL := [.ref s.heap.size, .int (Int32.ofNat N.slots.size)]) (rest := [.ref a]) rfl rfl (by show 2 * 0 + (1 + 0) ≤ _; decide) (hb hbytes d45) (⟨rfl, n1⟩)
  obtain ⟨rfl, q11⟩ := E11
  have hB11 := hB1.mv (X8.warmed.alike.symm.trans X11.warmed.alike) q11
  have c12 : Steps p.tables e below (s₁.setTop (entryFrame m #[.ref a, .ref b, .int (Int32.ofNat o), .int (Int32.ofNat len), .null] 6)) (T11.setTop (mkF m 48 #[.val (.ref a), .val (.ref b), .val (.int (Int32.ofNat o)), .val (.int (Int32.ofNat len)), .val .null, .val (.ref s.heap.size)] [.int 0, .ref a])) := g11
  obtain ⟨T13, X13, p13, bl13, sl13, st13⟩ := X11.finit hexec hown (wk W (.fieldLink "java/lang/String" 15 "java/lang/String" "coder" "B")) (Or.inr ⟨_, (wk W (.laysFinal "java/lang/String" "java/lang/String" "coder" "B"))⟩) (Or.inl ⟨rfl, hnm⟩) f2 (Or.inl rfl) hB11 (t := .byte) (by decide +kernel) rfl (g := (mkF m 48 #[.val (.ref a), .val (.ref b), .val (.int (Int32.ofNat o)), .val (.int (Int32.ofNat len)), .val .null, .val (.ref s.heap.size)] [.int 0, .ref a])) rfl (rest := []) rfl (hb hbytes d48)
  have c14 : Steps p.tables e below (s₁.setTop (entryFrame m #[.ref a, .ref b, .int (Int32.ofNat o), .int (Int32.ofNat len), .null] 6)) (T13.setTop (mkF m 54 #[.val (.ref a), .val (.ref b), .val (.int (Int32.ofNat o)), .val (.int (Int32.ofNat len)), .val .null, .val (.ref s.heap.size)] [.ref s.heap.size, .ref a])) := (c12.trans (st13 _ (Steps.refl _))).trans (by
    refine XS.aloadN X13.here hexec rfl (hb hbytes d51) rfl rfl ?_
    refine XS.aload X13.here hexec rfl (hb hbytes d52) rfl rfl ?_
    exact Steps.refl _)
  obtain ⟨T15, X15, p15, bl15, sl15, st15⟩ := X13.finit hexec hown (wk W (.fieldLink "java/lang/String" 9 "java/lang/String" "value" "[B")) (Or.inr ⟨_, (wk W (.laysFinal "java/lang/String" "java/lang/String" "value" "[B"))⟩) (Or.inl ⟨rfl, hnm⟩) f1 (Or.inl rfl) bl13 (t := (.array .byte)) (by decide +kernel) rfl (g := (mkF m 54 #[.val (.ref a), .val (.ref b), .val (.int (Int32.ofNat o)), .val (.int (Int32.ofNat len)), .val .null, .val (.ref s.heap.size)] [.ref s.heap.size, .ref a])) rfl (rest := []) rfl (hb hbytes d54)
  have c16 : Steps p.tables e below (s₁.setTop (entryFrame m #[.ref a, .ref b, .int (Int32.ofNat o), .int (Int32.ofNat len), .null] 6)) (T15.setTop (mkF m 57 #[.val (.ref a), .val (.ref b), .val (.int (Int32.ofNat o)), .val (.int (Int32.ofNat len)), .val .null, .val (.ref s.heap.size)] [])) := c14.trans (st15 _ (Steps.refl _))
  have ap := apart (Or.inr ⟨_, (wk W (.laysFinal "java/lang/String" "java/lang/String" "value" "[B"))⟩) (Or.inr ⟨_, (wk W (.laysFinal "java/lang/String" "java/lang/String" "coder" "B"))⟩) f1 f2 (t₁ := .array .byte) (t₂ := .byte) (by decide +kernel) (by decide +kernel) (by decide)
  have al := X8.warmed.alike.symm.trans X15.warmed.alike
  have n7 : T11.heap[s.heap.size]? = some N := by rw [q11]; exact n1.1
  exact ⟨T15, none, _, _, _, X15, by simp, rfl, by omega, (fun _ => rfl), ⟨rfl, _, N, bl15, ((Same.refl D _).set _ (by simp)).set _ (by simp), sl15, (Cell.slots_setSlot_ne _ ap).trans sl13, n1.keep al (p15.other hne (p13.other hne n7)), n2, by rw [al.findClass]; exact n3, n4, n5, fun y c h1 h2 => p15.other h1 (p13.other h1 (by rw [q11]; exact n6 y c h2)), by rw [p15.2.2, p13.2.2, q11]; exact z8⟩, fun fs hl => c16.trans (X15.returnOut hexec hret (hb hbytes d57) hl)⟩
end New4
namespace New1
def yN : MethodName := ⟨"java/lang/String", "<init>", "([C)V"⟩
abbrev yB : ByteArray := jdk_42_method_3_code
theorem d0 : decode yB 0 = .ok (.aload_n 0, 1) := by decide +kernel
theorem d1 : decode yB 1 = .ok (.aload_n 1, 1) := by decide +kernel
theorem d2 : decode yB 2 = .ok (.iconst 0, 1) := by decide +kernel
theorem d3 : decode yB 3 = .ok (.aload_n 1, 1) := by decide +kernel
theorem d4 : decode yB 4 = .ok (.arraylength, 1) := by decide +kernel
theorem d5 : decode yB 5 = .ok (.aconst_null, 1) := by decide +kernel
theorem d6 : decode yB 6 = .ok (.invokespecial 27, 3) := by decide +kernel
theorem d9 : decode yB 9 = .ok (.return_, 1) := by decide +kernel
def site : List Cond := [New4.tab] ++ initW "java/lang/String" 27 New4.yN
def tab : Cond := tabOf yN yB 2 none site
def P (a : Addr) (D : Cell) (fV fC : Field) (b : Addr) (A : Cell) (z : Int32) (args : Array Value) (s : State) : Prop := args = #[.ref a, .ref b] ∧ Blank "java/lang/String" a D s ∧ Found "java/lang/String" "value" "[B" fV s ∧ Found "java/lang/String" "coder" "B" fC s ∧ Ch b A s ∧ StaticIs s "java/lang/String" "COMPACT_STRINGS" "Z" (.int z) ∧ ¬ z = 0 ∧ 0 < A.slots.size ∧ A.slots.size ≤ 536870912 ∧ ∀ i, i < A.slots.size → ¬ 255 < cv A i
def E (a : Addr) (D : Cell) (fV fC : Field) (A : Cell) (r : Option Value) (s u : State) : Prop := Got a D fV fC A 0 A.slots.size r s u
/-- new String(chars), not empty, no char above 255: a Latin-1 String of their low bytes -/
theorem law (l : Launch) (a : Addr) (D : Cell) (fV fC : Field) (b : Addr) (A : Cell) (z : Int32) : Law l yN 2 1 3 52 yB 2 none site (P a D fV fC b A z) (E a D fV fC A) [⟨a, fC.slot⟩, ⟨a, fV.slot⟩] 1 A.slots.size := by
  refine Law.of_walk (plainFor_of_name (by decide +kernel)) (by decide +kernel) (by decide +kernel) (by decide) (fun _ _ h => by rw [h.1]; rfl) (fun _ U U' hal hh h => ⟨h.1, h.2.1.mv hal hh, h.2.2.1.al hal, h.2.2.2.1.al hal, h.2.2.2.2.1.mv hal hh, h.2.2.2.2.2.1.there hal hh, h.2.2.2.2.2.2⟩) (fun r U U' V V' h1 hal h2 h => Got.mv r U U' V V' h1 hal h2 h) ?_
  intro p e s m args below meth c s₁ X0 hexec hbytes hml hret hlk hnm hown hh0 W hP
  obtain ⟨rfl, hB, f1, f2, hA, s1, hz, l0, l2, hp⟩ := hP
  have c1 : Steps p.tables e below (s₁.setTop (entryFrame m #[.ref a, .ref b] 2)) (s₁.setTop (mkF m 0 #[.val (.ref a), .val (.ref b)] [])) := entry rfl
  have c2 : Steps p.tables e below (s₁.setTop (entryFrame m #[.ref a, .ref b] 2)) (s₁.setTop (mkF m 6 #[.val (.ref a), .val (.ref b)] [.null, .int (Int32.ofNat A.slots.size), .int 0, .ref b, .ref a])) := c1.trans (by
    refine XS.aloadN X0.here hexec rfl (hb hbytes d0) rfl rfl ?_
    refine XS.aloadN X0.here hexec rfl (hb hbytes d1) rfl rfl ?_
    refine iconstV X0.here hexec rfl 0 (hb hbytes d2) (by decide) ?_
    refine XS.aloadN X0.here hexec rfl (hb hbytes d3) rfl rfl ?_
    refine X0.alen hexec (hA.1.mv X0.warmed.alike hh0) rfl rfl (hb hbytes d4) ?_
    refine XS.aconstNull X0.here hexec rfl (hb hbytes d5) ?_
    exact Steps.refl _)
  obtain ⟨v3, T3, X3, E3, g3⟩ := X0.callN hexec (New4.law l a D fV fC b A z 0 A.slots.size) rfl hown (wks W (initW "java/lang/String" 27 New4.yN)) (W New4.tab (by simp only [site, List.mem_cons, List.mem_append, true_or, or_true])) (W := 0) (Nat.le_of_ble_eq_true rfl) (Nat.le_of_ble_eq_true rfl) (Nat.le_refl _) (by show 0 + A.slots.size ≤ A.slots.size; omega) (g := (mkF m 6 #[.val (.ref a), .val (.ref b)] [.null, .int (Int32.ofNat A.slots.size), .int (Int32.ofNat 0), .ref b, .ref a])) rfl (by rw [hml]; rfl) c2 (argsL := [.ref b, .int (Int32.ofNat 0), .int (Int32.ofNat A.slots.size), .null]) (rest := []) rfl rfl (by show 2 * 0 + 0 ≤ _; decide) (hb hbytes d6) (⟨rfl, hB.mv X0.warmed.alike hh0, f1.al X0.warmed.alike, f2.al X0.warmed.alike, hA.mv X0.warmed.alike hh0, s1.there X0.warmed.alike hh0, hz, l0, by omega, l2, fun i hi => by rw [Nat.zero_add]; exact hp i hi⟩)
  have e0 := Got.mv _ s₁ s _ _ hh0.symm (Vm.Alike.refl _) rfl E3
  obtain rfl := e0.1
  have c4 : Steps p.tables e below (s₁.setTop (entryFrame m #[.ref a, .ref b] 2)) (T3.setTop (mkF m 9 #[.val (.ref a), .val (.ref b)] [])) := g3
  exact ⟨T3, none, _, _, _, X3, by simp, rfl, by omega, (fun _ => rfl), e0, fun fs hl => c4.trans (X3.returnOut hexec hret (hb hbytes d9) hl)⟩
theorem pays {l : Launch} {R : Room} {p : Program} {e : Env} {below : List Frame} {s : State} {sargs : Array Value} {len W : Nat} (a : Addr) (D : Cell) (fV fC : Field) (b : Addr) (A : Cell) (z : Int32) (htab : tab.before sargs s = true) (hfr : 4 ≤ R.frames) (hlo : W + 65 ≤ R.locals) :
    Back l R p e below s sargs yN len W (fun A₁ a₁ => A₁.cells + 1 ≤ R.cells ∧ A₁.slots + A.slots.size ≤ R.slots ∧ P a D fV fC b A z a₁ A₁.U) (fun A₁ _ v₁ B₁ => E a D fV fC A v₁ A₁.U B₁.U ∧ B₁.locs = A₁.locs ++ [⟨a, fC.slot⟩, ⟨a, fV.slot⟩] ∧ B₁.cells = A₁.cells + 1 ∧ B₁.slots = A₁.slots + A.slots.size) :=
  (law l a D fV fC b A z).pays htab hfr (by omega)
end New1
end StrChars
namespace StrChars.Road
open Jvm Sem ClassFile Op Lib Jvm.Stand Jvm.Free Jvm.Free.XT
open Jvm.Lib.Cold (StaticIs)
abbrev ST : String := "java/lang/String"
/-- every table word that New1's law asks, flat -/
abbrev words : List Jvm.Cond := [.code New1.yN New1.yB 2 none, .initialized ST, .methodLink ST 27 New4.yN, .instanceMethod New4.yN,
  .code New4.yN New4.yB 6 none, .fieldLink ST 38 ST "COMPACT_STRINGS" "Z", .laysFinal ST ST "value" "[B", .fieldLink ST 9 ST "value" "[B", .laysFinal ST ST "coder" "B", .fieldLink ST 15 ST "coder" "B",
  .methodLink ST 1 Lib.objectInit, .instanceMethod Lib.objectInit, .code Lib.objectInit ⟨#[0xb1]⟩ 1 none, .methodLink ST 177 Cmp3.yN, .static Cmp3.yN, .methodLink ST 47 CodL.yN, .static CodL.yN,
  .code Cmp3.yN Cmp3.yB 6 (some (.array .byte)), .initialized U16, .arrayClass .byte, .methodLink U16 115 Cmp5.yN, .static Cmp5.yN, .code Cmp5.yN Cmp5.yB 7 (some .int), .code CodL.yN CodL.yB 2 (some .byte)]
theorem tab_of {a : Array Value} {s : State} (h : ∀ w ∈ words, w.before a s = true) : New1.tab.before a s = true := by
  have h5 : Cmp5.tab.before a s = true := unparts (wk h (.code Cmp5.yN Cmp5.yB 7 (some .int))) (wks h (.initialized Cmp5.yN.cls :: Cmp5.site))
  have hc : CodL.tab.before a s = true := unparts (wk h (.code CodL.yN CodL.yB 2 (some .byte))) (wks h (.initialized CodL.yN.cls :: CodL.site))
  have q5 : ∀ w ∈ Cmp5.tab :: words, w.before a s = true := fun w hw => (List.mem_cons.mp hw).elim (fun e => e ▸ h5) (h w)
  have h3 : Cmp3.tab.before a s = true := unparts (wk q5 (.code Cmp3.yN Cmp3.yB 6 (some (.array .byte)))) (wks q5 (.initialized Cmp3.yN.cls :: Cmp3.site))
  have q3 : ∀ w ∈ Cmp3.tab :: CodL.tab :: words, w.before a s = true := fun w hw => (List.mem_cons.mp hw).elim (fun e => e ▸ h3) fun hw => (List.mem_cons.mp hw).elim (fun e => e ▸ hc) (h w)
  have h4 : New4.tab.before a s = true := unparts (wk q3 (.code New4.yN New4.yB 6 none)) (wks q3 (.initialized New4.yN.cls :: New4.site))
  have q4 : ∀ w ∈ New4.tab :: words, w.before a s = true := fun w hw => (List.mem_cons.mp hw).elim (fun e => e ▸ h4) (h w)
  exact unparts (wk q4 (.code New1.yN New1.yB 2 none)) (wks q4 (.initialized New1.yN.cls :: New1.site))
/-- the words ride from the start Z to the walk's own state -/
theorem moved {Z s : State} {a0 args : Array Value} (hZ : Z.Warmed39 s.vm) (hw : ∀ d ∈ words, d.before a0 Z = true) : ∀ d ∈ words, d.before args s = true := fun d hd => by
  have q := hw d hd
  have t : ∀ d ∈ words, d = .arrayClass .byte ∨ (d.onTables && d.keepsFace) = true := by decide +kernel
  rcases t d hd with rfl | t
  · exact RoadKit.mvA hZ q
  · exact RoadKit.mv hZ q t
/-- WHAT COMES BACK, over the tables of the start Z: h the heap at the call, h' behind it -/
def Q (Z : State) (x : Addr) (A : Cell) (h : Heap) (v : Option Value) (h' : Heap) (L : List Loc) : Prop := v = none ∧ (∀ y ∈ L, y.base = x) ∧ RoadKit.Keep h h' [x] ∧ h'.size = h.size + 1 ∧ RoadKit.Exa Z h' x ST ∧ RoadKit.Fld Z h' x ST "value" "[B" (.ref h.size) ∧ RoadKit.Fld Z h' x ST "coder" "B" (.int 0) ∧
  (∃ V : Cell, RoadKit.Arr Z h' h.size V .byte ∧ V.vm = .none ∧ Z.vm.findClass "[B" = some V.cls ∧ V.slots.size = A.slots.size ∧ ∀ j, j < A.slots.size → V.slots[j]? = some (.int (lo8 (cv A j)))) ∧
  ∀ (O n d : String) (w : Value), RoadKit.Fld Z h x O n d w → RoadKit.slotOf Z O n d ≠ RoadKit.slotOf Z ST "value" "[B" → RoadKit.slotOf Z O n d ≠ RoadKit.slotOf Z ST "coder" "B" → RoadKit.Fld Z h' x O n d w
/-- **new String(chars) AT A CALL, IN THE ROAD'S FORM**: for specialBack behind newO: x the fresh String, b the char[] with the cell A -/
theorem back {p : Program} {l : Launch} {e : Env} {R : Room} {s : State} {args : Array Value} {below : List Frame} {len W : Nat} {Z : State} {a0 : Array Value} {h : Heap} (hZ : Z.Warmed39 s.vm) (hw : ∀ d ∈ words, d.before a0 Z = true) {kI : Nat} (wi : (Jvm.Cond.instantiable ST kI).before a0 Z = true)
    {x b : Addr} {A : Cell} {z : Int32} {v0 c0 : Value} (E : RoadKit.Exa Z h x ST) (V : RoadKit.Fld Z h x ST "value" "[B" v0) (C : RoadKit.Fld Z h x ST "coder" "B" c0) (K : RoadKit.Arr Z h b A .char) (hty : Typed .char A) (S : RoadKit.Sta Z h ST "COMPACT_STRINGS" "Z" (.int z)) (hz : ¬ z = 0)
    (l0 : 0 < A.slots.size) (l2 : A.slots.size ≤ 536870912) (hp : ∀ i, i < A.slots.size → ¬ 255 < cv A i) (hfr : 4 ≤ R.frames) (hlo : W + 65 ≤ R.locals) :
    Back l R p e below s args New1.yN len W (fun P a => a = #[.ref x, .ref b] ∧ P.U.heap = h ∧ P.cells + 1 ≤ R.cells ∧ P.slots + A.slots.size ≤ R.slots)
      (fun P _ v B => ∃ L, Q Z x A h v B.U.heap L ∧ B.locs = P.locs ++ L ∧ B.cells = P.cells + 1 ∧ B.slots = P.slots + A.slots.size) := by
  intro m meth c P g ig mk a X hg hsize hdg hW hn hp'
  obtain ⟨rfl, rfl, r1, r2⟩ := hp'
  have al : Z.vm.Alike P.U.vm := hZ.alike.trans X.warmed.alike
  obtain ⟨D, cfV, kV, iV, fV, hD, gV, stV, knV, obV, asV, slV⟩ := id V
  obtain ⟨D', cfC, kC, iC, fC, hD', gC, stC, -, -, asC, slC⟩ := id C
  cases hD.symm.trans hD'
  obtain ⟨D2, kD, e1, e2, e3, e4, e5⟩ := id E
  cases hD.symm.trans e1
  obtain ⟨c2, k2, i1, i2, i3, -⟩ := Cond.instantiable_spec wi
  cases e2.symm.trans i1
  cases e3.symm.trans i2
  obtain ⟨kU, u1, u2⟩ := al.2.2 _ _ e3
  have hB : Blank ST x D P.U := ⟨hD, ⟨knV, fun q hq => by rw [hq] at obV; cases obV⟩, by rw [al.findClass]; exact e2, kU, u1, by rw [u2]; exact i3, by rw [u2]; exact e5 i3⟩
  have F1 : Found ST "value" "[B" fV P.U := ⟨SBG.found_only al ⟨cfV, kV, iV, gV⟩, stV⟩
  have F2 : Found ST "coder" "B" fC P.U := ⟨SBG.found_only al ⟨cfC, kC, iC, gC⟩, stC⟩
  have hA : Ch b A P.U := ⟨⟨K.1, State.isArrayOf_alike al K.2.1, K.2.2, by omega⟩, hty⟩
  have hS : StaticIs P.U ST "COMPACT_STRINGS" "Z" (.int z) := by
    obtain ⟨cfS, iS, kS, fS, st, cS, t1, t2, t3, t4, t5, t6, t7⟩ := S
    exact StaticIs.there (s := { Z with heap := P.U.heap }) ⟨cfS, iS, kS, fS, st, cS, t1, t2, t3, t4, t5, (fun q => by rw [q] at t6; cases t6), t7⟩ al rfl
  obtain ⟨v, B, X', ⟨⟨hv, E', V', q1, q2, q3, q4, q5, q6, q7, q8, q9, q10, q11⟩, hl, hc, hs⟩, st⟩ := New1.pays x D fV fC b A z (tab_of (moved hZ hw)) hfr hlo m meth c P g ig mk _ X hg hsize hdg hW hn ⟨r1, r2, rfl, hB, F1, F2, hA, hS, hz, l0, l2, hp⟩
  have al' : Z.vm.Alike B.U.vm := hZ.alike.trans X'.warmed.alike
  have hsz : E'.slots.size = D.slots.size := by
    obtain ⟨-, -, -, kB, w1, w2, w3⟩ := q1
    obtain ⟨kB', y1, y2⟩ := al'.2.2 _ _ e3
    rw [q2.2.1] at w1
    cases w1.symm.trans y1
    rw [w3, e5 i3, y2]
  refine ⟨v, B, X', ⟨_, ⟨hv, ?_, ⟨by omega, fun y cy hy hn' => q10 y cy (by simpa using hn') hy, fun y cy hy => ?_⟩, q11, ⟨E', _, q1.1, by rw [q2.2.1]; exact e2, by rw [q2.2.1]; exact e3, by rw [q2.1]; exact obV, fun _ => by rw [hsz]; exact e5 i3⟩,
    ⟨E', cfV, kV, iV, fV, q1.1, gV, stV, by rw [q2.1]; exact knV, by rw [q2.1]; exact obV, by rw [q2.2.1]; exact asV, q3⟩, ⟨E', cfC, kC, iC, fC, q1.1, gC, stC, by rw [q2.1]; exact knV, by rw [q2.1]; exact obV, by rw [q2.2.1]; exact asC, q4⟩,
    ⟨V', ⟨q5.1, State.isArrayOf_alike al'.symm q5.2.1, q5.2.2.1⟩, q6, by rw [← al'.findClass]; exact q7, q8, fun j hj => by have := q9 j hj; rwa [Nat.zero_add] at this⟩, fun O n d w F n1 n2 => ?_⟩, hl, hc, hs⟩, st⟩
  · intro y hy
    simp only [List.mem_cons, List.not_mem_nil, or_false] at hy
    rcases hy with rfl | rfl <;> rfl
  · by_cases q : y = x
    · subst q
      cases hD.symm.trans hy
      exact ⟨E', q1.1, q2.2.1, q2.1, hsz⟩
    · exact ⟨cy, q10 y cy q hy, rfl, rfl, rfl⟩
  · obtain ⟨D3, cf, k, i, f, g1, g2, g3, g4, g5, g6, g7⟩ := F
    cases hD.symm.trans g1
    simp only [RoadKit.slotOf, g2, gV, gC, Option.map_some, Option.getD_some] at n1 n2
    exact ⟨E', cf, k, i, f, q1.1, g2, g3, by rw [q2.1]; exact g4, by rw [q2.1]; exact g5, by rw [q2.2.1]; exact g6, by rw [q2.2.2 f.slot (by simp [n1, n2])]; exact g7⟩
end StrChars.Road
namespace StrChars.Road
open Jvm Sem ClassFile Op Lib Jvm.Stand Jvm.Free Jvm.Free.XT
/-- WHAT COMES BACK, the byte[] as a list of values -/
def QA (Z : State) (x : Addr) (zn : Int32) (cs : List Int32) (h : Heap) (v : Option Value) (h' : Heap) (L : List Loc) : Prop := v = none ∧ (∀ y ∈ L, y.base = x) ∧ RoadKit.Keep h h' [x] ∧ h'.size = h.size + 1 ∧ RoadKit.Exa Z h' x ST ∧ RoadKit.Fld Z h' x ST "value" "[B" (.ref h.size) ∧ RoadKit.Fld Z h' x ST "coder" "B" (.int 0) ∧
  (∃ kb, Z.vm.findClass "[B" = some kb ∧ RoadKit.Arv Z h' h.size kb .byte zn (cs.map fun c => .int (lo8 c)) (.int 0)) ∧
  ∀ (O n d : String) (w : Value), RoadKit.Fld Z h x O n d w → RoadKit.slotOf Z O n d ≠ RoadKit.slotOf Z ST "value" "[B" → RoadKit.slotOf Z O n d ≠ RoadKit.slotOf Z ST "coder" "B" → RoadKit.Fld Z h' x O n d w
/-- **new String(chars) AT A CALL, THE ARRAYS AS LISTS**: the char[] at b holds cs, not empty, no char above 255 -/
theorem backArv {p : Program} {l : Launch} {e : Env} {R : Room} {s : State} {args : Array Value} {below : List Frame} {len W : Nat} {Z : State} {a0 : Array Value} {h : Heap} (hZ : Z.Warmed39 s.vm) (hw : ∀ d ∈ words, d.before a0 Z = true) {kI : Nat} (wi : (Jvm.Cond.instantiable ST kI).before a0 Z = true)
    {x b : Addr} {k : ClassId} {zn z : Int32} {cs : List Int32} {dv v0 c0 : Value} (E : RoadKit.Exa Z h x ST) (V : RoadKit.Fld Z h x ST "value" "[B" v0) (C : RoadKit.Fld Z h x ST "coder" "B" c0) (K : RoadKit.Arv Z h b k .char zn (cs.map Value.int) dv) (S : RoadKit.Sta Z h ST "COMPACT_STRINGS" "Z" (.int z)) (hz : ¬ z = 0)
    (hlen : zn.toNatClampNeg = cs.length) (h0 : 0 < cs.length) (hbig : cs.length ≤ 536870912) (hall : ∀ c ∈ cs, ¬ 255 < c) (hfr : 4 ≤ R.frames) (hlo : W + 65 ≤ R.locals) :
    Back l R p e below s args New1.yN len W (fun P a => a = #[.ref x, .ref b] ∧ P.U.heap = h ∧ P.cells + 1 ≤ R.cells ∧ P.slots + cs.length ≤ R.slots)
      (fun P _ v B => ∃ L, QA Z x zn cs h v B.U.heap L ∧ B.locs = P.locs ++ L ∧ B.cells = P.cells + 1 ∧ B.slots = P.slots + cs.length) := by
  obtain ⟨A, K1, K2, K3, K4, K5, K6⟩ := K
  have e : A.slots.size = cs.length := K3.trans hlen
  have hat : ∀ (i : Nat) (hi : i < cs.length), A.slots[i]? = some (.int cs[i]) := fun i hi => by rw [K5 i (by omega)]; simp [List.getD_eq_getElem?_getD, hi]
  have hcv : ∀ (i : Nat) (hi : i < cs.length), cv A i = cs[i] := fun i hi => by unfold cv; rw [hat i hi]
  have hty : Typed .char A := fun i v hv => by
    have hi : i < A.slots.size := (Array.getElem?_eq_some_iff.mp hv).1
    have q := K5 i hi
    rw [hv] at q
    rw [Option.some.inj q]
    exact K6 i hi
  refine Back.mono (back hZ hw wi E V C K1 hty S hz (by omega) (by omega) (fun i hi => by rw [hcv i (by omega)]; exact hall _ (List.getElem_mem _)) hfr hlo) (fun P a hp => ⟨hp.1, hp.2.1, hp.2.2.1, by rw [e]; exact hp.2.2.2⟩) (fun P a v B hp hq => ?_)
  obtain ⟨L, ⟨q1, q2, q3, q4, q5, q6, q7, ⟨V', v1, v2, v3, v4, v5⟩, q9⟩, hl, hc, hs⟩ := hq
  refine ⟨L, ⟨q1, q2, q3, q4, q5, q6, q7, ⟨V'.cls, v3, V', v1, rfl, by rw [v4, e, hlen], K4, fun i hi => ?_, fun i hi => ?_⟩, q9⟩, hl, hc, by rw [hs, e]⟩
  · have hi' : i < cs.length := by omega
    rw [v5 i (by omega), hcv i hi']; simp [List.getD_eq_getElem?_getD, hi']
  · have hi' : i < cs.length := by omega
    simp only [List.getD_eq_getElem?_getD, List.getElem?_map, List.getElem?_eq_getElem hi', Option.map_some, Option.getD_some]
    exact fits_lo8 _
end StrChars.Road
namespace StrChars.Road
open Jvm Sem ClassFile Op Lib Jvm.Stand Jvm.Free Jvm.Free.XT
/-- WHAT COMES BACK, in the writer's own shape -/
def QV (Z : State) (x : Addr) (N : Int32) (bs : List Int32) (h : Heap) (n0 : Nat) (v : Option Value) (h' : Heap) (L : List Loc) : Prop := v = none ∧ RoadKit.Fr n0 L ∧ RoadKit.Keep h h' [x] ∧ RoadKit.Exa Z h' x ST ∧ RoadKit.Fld Z h' x ST "coder" "B" (.int 0) ∧
  ∃ (t : Addr) (kb : ClassId), n0 ≤ t ∧ h.size ≤ t ∧ ¬ t = x ∧ RoadKit.Fld Z h' x ST "value" "[B" (.ref t) ∧ RoadKit.Arv Z h' t kb .byte N (bs.map Value.int) (.int 0)
/-- **new String(chars) AT A CALL, FOR THE WRITER**: a char[] of n known ints, each 0 to 255 -/
theorem backV {p : Program} {l : Launch} {e : Env} {R : Room} {s : State} {args : Array Value} {below : List Frame} {len W : Nat} {Z : State} {a0 : Array Value} {h : Heap} (hZ : Z.Warmed39 s.vm) (hw : ∀ d ∈ words, d.before a0 Z = true) {kI : Nat} (wi : (Jvm.Cond.instantiable ST kI).before a0 Z = true)
    {x b : Addr} {kC : ClassId} {cs bs : List Int32} {d v0 c0 : Value} {z N : Int32} {n n0 : Nat} (hx0 : n0 ≤ x) (hh0 : n0 ≤ h.size) (E : RoadKit.Exa Z h x ST) (V : RoadKit.Fld Z h x ST "value" "[B" v0) (C : RoadKit.Fld Z h x ST "coder" "B" c0) (K : RoadKit.Arv Z h b kC .char N (cs.map Value.int) d) (S : RoadKit.Sta Z h ST "COMPACT_STRINGS" "Z" (.int z)) (hz : ¬ z = 0)
    (hn : cs.length = n) (hN : N = Int32.ofNat n) (l0 : 0 < n) (l2 : n ≤ 4000) (hp : ∀ c ∈ cs, ¬ c < 0 ∧ ¬ (255 : Int32) < c) (hb : bs = cs.map (fun c => c.toInt8.toInt32)) (hfr : 4 ≤ R.frames) (hlo : W + 65 ≤ R.locals) :
    Back l R p e below s args (⟨"java/lang/String", "<init>", "([C)V"⟩ : MethodName) len W (fun P a => a = #[.ref x, .ref b] ∧ P.U.heap = h ∧ P.cells + 1 ≤ R.cells ∧ P.slots + n ≤ R.slots)
      (fun P _ v B => ∃ L, QV Z x N bs h n0 v B.U.heap L ∧ B.locs = P.locs ++ L ∧ B.cells = P.cells + 1 ∧ B.slots = P.slots + n) := by
  subst hn hN hb
  refine Back.mono (backArv hZ hw wi E V C K S hz (n32 (by omega)) l0 (by omega) (fun c hc => (hp c hc).2) hfr hlo) (fun P a hp => hp) (fun P a v B hp hq => ?_)
  obtain ⟨L, ⟨q1, q2, q3, q4, q5, q6, q7, ⟨kb, v1, v2⟩, q9⟩, hl, hc, hs⟩ := hq
  exact ⟨L, ⟨q1, fun y hy => by rw [q2 y hy]; exact hx0, q3, q5, q7, h.size, kb, hh0, Nat.le_refl _, Nat.ne_of_gt E.lt, q6, by rw [List.map_map]; exact v2⟩, hl, hc, hs⟩
end StrChars.Road
namespace StrChars
open Jvm Sem ClassFile Op Lib Jvm.Stand Jvm.Free.XT Jvm.Free.ALB Jvm.Free.JM Jvm.Free
open Jvm.Lib.Cold (StaticIs)
def hi8 (x : Int32) : Int32 := lo8 (x >>> ((8 : Int32) &&& 31))
theorem shr0 (c : Int32) : c >>> ((0 : Int32) &&& 31) = c := by
  have e : ((0 : Int32) &&& 31) = 0 := by decide
  rw [e]
  apply Int32.toBitVec_inj.mp
  rw [Int32.toBitVec_shiftRight]
  have e1 : ((0 : Int32).toBitVec.smod 32) = 0#32 := by decide
  rw [e1, BitVec.sshiftRight_eq']
  exact BitVec.sshiftRight_zero
end StrChars
namespace StrChars
open Jvm Sem ClassFile Op Lib Jvm.Stand Jvm.Free.XT Jvm.Free.ALB Jvm.Free.JM Jvm.Free
open Jvm.Lib.Cold (StaticIs)
theorem shr1 {n : Nat} (h : 2 * n < 2 ^ 31) : Int32.ofNat (2 * n) >>> ((1 : Int32) &&& 31) = Int32.ofNat n := by
  have e : ((1 : Int32) &&& 31) = 1 := by decide
  rw [e]
  apply Int32.toBitVec_inj.mp
  rw [Int32.toBitVec_shiftRight]
  have e1 : ((1 : Int32).toBitVec.smod 32) = 1#32 := by decide
  have hm : (BitVec.ofNat 32 (2 * n)).toNat = 2 * n := by rw [BitVec.toNat_ofNat, Nat.mod_eq_of_lt (by omega)]
  rw [e1, BitVec.sshiftRight_eq']
  apply BitVec.eq_of_toNat_eq
  show ((BitVec.ofNat 32 (2 * n)).sshiftRight 1).toNat = (BitVec.ofNat 32 n).toNat
  rw [BitVec.toNat_sshiftRight_of_msb_false (by rw [BitVec.msb_eq_false_iff_two_mul_lt, hm]; omega), hm, BitVec.toNat_ofNat, Nat.shiftRight_eq_div_pow]
  omega
/-- the array's cell V codes the n chars f 0 .. f (n - 1) by the coder cd, as the JDK does: coder 1 just where some char is above 255 -/
def Cod (cd : Int32) (n : Nat) (f : Nat → Int32) (V : Cell) : Prop := (cd = 0 ∧ V.slots.size = n ∧ ∀ j, j < n → V.slots[j]? = some (.int (lo8 (f j))) ∧ ¬ 255 < f j) ∨ (cd = 1 ∧ V.slots.size = 2 * n ∧ (∀ j, j < n → V.slots[2 * j]? = some (.int (lo8 (f j))) ∧ V.slots[2 * j + 1]? = some (.int (hi8 (f j)))) ∧ ∃ j, j < n ∧ 255 < f j)
theorem Cod.cd {cd : Int32} {n : Nat} {f : Nat → Int32} {V : Cell} (h : Cod cd n f V) : cd = 0 ∨ cd = 1 := h.imp (fun q => q.1) fun q => q.1
theorem Cod.len {cd : Int32} {n : Nat} {f : Nat → Int32} {V : Cell} (h : Cod cd n f V) (hs : V.slots.size < 2 ^ 31) : Int32.ofNat V.slots.size >>> (cd &&& 31) = Int32.ofNat n := by
  rcases h with ⟨rfl, h, -⟩ | ⟨rfl, h, -⟩
  · rw [shr0, h]
  · rw [h, shr1 (by omega)]
/-- **x is a String of the n chars f 0 .. f (n - 1)**, Latin-1 or UTF-16; its array at t has the cell V -/
def Txt (x t : Addr) (V : Cell) (cd : Int32) (n : Nat) (f : Nat → Int32) (U : State) : Prop := Exact "java/lang/String" x U ∧ Has x "java/lang/String" "value" "[B" (.ref t) U ∧ Has x "java/lang/String" "coder" "B" (.int cd) U ∧ XT.Arr .byte t V U ∧ Cod cd n f V ∧ ∀ j, j < n → ¬ f j < 0 ∧ ¬ 65535 < f j
theorem Txt.mv {x t : Addr} {V : Cell} {cd : Int32} {n : Nat} {f : Nat → Int32} {U U' : State} (h : Txt x t V cd n f U) (hal : U.vm.Alike U'.vm) (hh : U'.heap = U.heap) : Txt x t V cd n f U' := ⟨h.1.mv hal hh, h.2.1.mv hal hh, h.2.2.1.mv hal hh, h.2.2.2.1.mv hal hh, h.2.2.2.2⟩
namespace Cdr
def yN : MethodName := ⟨"java/lang/String", "coder", "()B"⟩
abbrev yB : ByteArray := jdk_42_method_152_code
theorem d0 : decode yB 0 = .ok (.getstatic 38, 3) := by decide +kernel
theorem d3 : decode yB 3 = .ok (.ifCond (.eq) 10, 3) := by decide +kernel
theorem d6 : decode yB 6 = .ok (.aload_n 0, 1) := by decide +kernel
theorem d7 : decode yB 7 = .ok (.getfield 15, 3) := by decide +kernel
theorem d10 : decode yB 10 = .ok (.goto 4, 3) := by decide +kernel
theorem d14 : decode yB 14 = .ok (.ireturn, 1) := by decide +kernel
def site : List Cond := [.fieldLink "java/lang/String" 38 "java/lang/String" "COMPACT_STRINGS" "Z", .fieldLink "java/lang/String" 15 "java/lang/String" "coder" "B"]
def tab : Cond := tabOf yN yB 1 (some .byte) site
def P (x : Addr) (cd z : Int32) (args : Array Value) (s : State) : Prop := args = #[.ref x] ∧ Has x "java/lang/String" "coder" "B" (.int cd) s ∧ (cd = 0 ∨ cd = 1) ∧ StaticIs s "java/lang/String" "COMPACT_STRINGS" "Z" (.int z) ∧ ¬ z = 0
def E (cd : Int32) (r : Option Value) (s u : State) : Prop := XT.PureE (some (.int cd)) r s u
theorem law (l : Launch) (x : Addr) (cd z : Int32) : Law l yN 1 0 0 0 yB 1 (some .byte) site (P x cd z) (E cd) [] 0 0 := by
  refine Law.of_walk (plainFor_of_name (by decide +kernel)) (by decide +kernel) (by decide +kernel) (by decide) (fun _ _ h => by rw [h.1]; rfl) (fun _ U U' hal hh h => ⟨h.1, h.2.1.mv hal hh, h.2.2.1, h.2.2.2.1.there hal hh, h.2.2.2.2⟩) (fun r U U' V V' h1 hal h2 h => XT.PureE.mv r U U' V V' h1 hal h2 h) ?_
  intro p e s m args below meth c s₁ X0 hexec hbytes hml hret hlk hnm hown hh0 W hP
  obtain ⟨rfl, hx, hc, s1, hz⟩ := hP
  have c1 : Steps p.tables e below (s₁.setTop (entryFrame m #[.ref x] 1)) (s₁.setTop (mkF m 0 #[.val (.ref x)] [])) := entry rfl
  obtain ⟨T2, X2, q2, st2⟩ := X0.sget hexec hown (wk W (.fieldLink "java/lang/String" 38 "java/lang/String" "COMPACT_STRINGS" "Z")) s1 (fun _ _ h => by rw [hh0]; exact h) (g := (mkF m 0 #[.val (.ref x)] [])) rfl (hb hbytes d0)
  have hh2 := q2.trans hh0
  have c3 : Steps p.tables e below (s₁.setTop (entryFrame m #[.ref x] 1)) (T2.setTop (mkF m 7 #[.val (.ref x)] [.ref x])) := (c1.trans (st2 _ (Steps.refl _))).trans (by
    refine XS.ifNo X2.here hexec rfl (hb hbytes d3) rfl (i0_eq_f hz) ?_
    refine XS.aloadN X2.here hexec rfl (hb hbytes d6) rfl rfl ?_
    exact Steps.refl _)
  obtain ⟨T4, X4, q4, st4⟩ := X2.hget hexec hown (wk W (.fieldLink "java/lang/String" 15 "java/lang/String" "coder" "B")) (hx.mv X2.warmed.alike hh2) (g := (mkF m 7 #[.val (.ref x)] [.ref x])) rfl (rest := []) rfl (hb hbytes d7)
  have c5 : Steps p.tables e below (s₁.setTop (entryFrame m #[.ref x] 1)) (T4.setTop (mkF m 14 #[.val (.ref x)] [.int cd])) := (c3.trans (st4 _ (Steps.refl _))).trans (by
    refine XS.goto X4.here hexec rfl (pc0 := 10) rfl (hb hbytes d10) (by decide) rfl ?_
    exact Steps.refl _)
  exact ⟨T4, some (.int cd), _, _, _, X4, rfl, rfl, rfl, (fun h => by cases h), ⟨rfl, q4.trans hh2⟩, fun fs hl => c5.trans (X4.ireturnOut hexec hret (by rcases hc with rfl | rfl <;> rfl) (Or.inr (Or.inr (Or.inl rfl))) (hb hbytes d14) hl)⟩
end Cdr
namespace Len
def yN : MethodName := ⟨"java/lang/String", "length", "()I"⟩
abbrev yB : ByteArray := jdk_42_method_54_code
theorem d0 : decode yB 0 = .ok (.aload_n 0, 1) := by decide +kernel
theorem d1 : decode yB 1 = .ok (.getfield 9, 3) := by decide +kernel
theorem d4 : decode yB 4 = .ok (.arraylength, 1) := by decide +kernel
theorem d5 : decode yB 5 = .ok (.aload_n 0, 1) := by decide +kernel
theorem d6 : decode yB 6 = .ok (.invokevirtual 335, 3) := by decide +kernel
theorem d9 : decode yB 9 = .ok (.ishr, 1) := by decide +kernel
theorem d10 : decode yB 10 = .ok (.ireturn, 1) := by decide +kernel
def site : List Cond := [.fieldLink "java/lang/String" 9 "java/lang/String" "value" "[B", Cdr.tab] ++ virtW "java/lang/String" 335 "java/lang/String" Cdr.yN Cdr.yN
def tab : Cond := tabOf yN yB 1 (some .int) site
def P (x t : Addr) (V : Cell) (cd : Int32) (n : Nat) (f : Nat → Int32) (z : Int32) (args : Array Value) (s : State) : Prop := args = #[.ref x] ∧ Txt x t V cd n f s ∧ StaticIs s "java/lang/String" "COMPACT_STRINGS" "Z" (.int z) ∧ ¬ z = 0
def E (n : Nat) (r : Option Value) (s u : State) : Prop := XT.PureE (some (.int (Int32.ofNat n))) r s u
/-- length() of a String of n chars, in either coding -/
theorem law (l : Launch) (x t : Addr) (V : Cell) (cd : Int32) (n : Nat) (f : Nat → Int32) (z : Int32) : Law l yN 1 0 1 13 yB 1 (some .int) site (P x t V cd n f z) (E n) [] 0 0 := by
  refine Law.of_walk (plainFor_of_name (by decide +kernel)) (by decide +kernel) (by decide +kernel) (by decide) (fun _ _ h => by rw [h.1]; rfl) (fun _ U U' hal hh h => ⟨h.1, h.2.1.mv hal hh, h.2.2.1.there hal hh, h.2.2.2⟩) (fun r U U' V V' h1 hal h2 h => XT.PureE.mv r U U' V V' h1 hal h2 h) ?_
  intro p e s m args below meth c s₁ X0 hexec hbytes hml hret hlk hnm hown hh0 W hP
  obtain ⟨rfl, hx, s1, hz⟩ := hP
  have v31 := hx.2.2.2.1.2.2.2
  have c1 : Steps p.tables e below (s₁.setTop (entryFrame m #[.ref x] 1)) (s₁.setTop (mkF m 1 #[.val (.ref x)] [.ref x])) := Steps.trans (entry rfl) (by
    show Steps p.tables e below (s₁.setTop (mkF m 0 #[.val (.ref x)] [])) _
    refine XS.aloadN X0.here hexec rfl (hb hbytes d0) rfl rfl ?_
    exact Steps.refl _)
  obtain ⟨T2, X2, q2, st2⟩ := X0.hget hexec hown (wk W (.fieldLink "java/lang/String" 9 "java/lang/String" "value" "[B")) (hx.mv X0.warmed.alike hh0).2.1 (g := (mkF m 1 #[.val (.ref x)] [.ref x])) rfl (rest := []) rfl (hb hbytes d1)
  have hh2 := q2.trans hh0
  have hx2 := hx.mv X2.warmed.alike hh2
  have c3 : Steps p.tables e below (s₁.setTop (entryFrame m #[.ref x] 1)) (T2.setTop (mkF m 6 #[.val (.ref x)] [.ref x, .int (Int32.ofNat V.slots.size)])) := (c1.trans (st2 _ (Steps.refl _))).trans (by
    refine X2.alen hexec hx2.2.2.2.1 rfl rfl (hb hbytes d4) ?_
    refine XS.aloadN X2.here hexec rfl (hb hbytes d5) rfl rfl ?_
    exact Steps.refl _)
  obtain ⟨v4, T4, X4, E4, g4⟩ := X2.callV hexec (Cdr.law l x cd z) hown (wks W (virtW "java/lang/String" 335 "java/lang/String" Cdr.yN Cdr.yN)) rfl (by decide) (wk W Cdr.tab) (W := 1) (Nat.le_of_ble_eq_true rfl) (Nat.le_of_ble_eq_true rfl) (Nat.le_refl _) (Nat.le_refl _) (hx2.1.fc X2.warmed.alike) hx2.1.is (g := (mkF m 6 #[.val (.ref x)] [.ref x, .int (Int32.ofNat V.slots.size)])) rfl (by rw [hml]; rfl) c3 (argsL := []) (rest := [.int (Int32.ofNat V.slots.size)]) rfl rfl (by show 2 * 0 + (1 + 0) ≤ _; decide) (hb hbytes d6) (⟨rfl, hx2.2.2.1, hx.2.2.2.2.1.cd, s1.there X2.warmed.alike hh2, hz⟩)
  obtain ⟨rfl, q4⟩ := E4
  have c5 : Steps p.tables e below (s₁.setTop (entryFrame m #[.ref x] 1)) (T4.setTop (mkF m 10 #[.val (.ref x)] [.int (Int32.ofNat V.slots.size >>> (cd &&& 31))])) := Steps.trans g4 (by
    refine ishr X4.here hexec rfl (hb hbytes d9) rfl ?_
    exact Steps.refl _)
  rw [hx.2.2.2.2.1.len v31] at c5
  exact ⟨T4, some (.int (Int32.ofNat n)), _, _, _, X4, rfl, rfl, rfl, (fun h => by cases h), ⟨rfl, q4.trans hh2⟩, fun fs hl => c5.trans (X4.ireturnOut hexec hret rfl (Or.inl rfl) (hb hbytes d10) hl)⟩
theorem pays {l : Launch} {R : Room} {p : Program} {e : Env} {below : List Frame} {s : State} {sargs : Array Value} {len W : Nat} (x t : Addr) (V : Cell) (cd : Int32) (n : Nat) (f : Nat → Int32) (z : Int32) (htab : tab.before sargs s = true) (hfr : 2 ≤ R.frames) (hlo : W + 25 ≤ R.locals) :
    Back l R p e below s sargs yN len W (fun A₁ a₁ => A₁.cells + 0 ≤ R.cells ∧ A₁.slots + 0 ≤ R.slots ∧ P x t V cd n f z a₁ A₁.U) (fun A₁ _ v₁ B₁ => E n v₁ A₁.U B₁.U ∧ B₁.locs = A₁.locs ++ [] ∧ B₁.cells = A₁.cells + 0 ∧ B₁.slots = A₁.slots + 0) :=
  (law l x t V cd n f z).pays htab hfr (by omega)
end Len
end StrChars
namespace StrChars.Road
open Jvm Sem ClassFile Op Lib Jvm.Stand Jvm.Free Jvm.Free.XT
open Jvm.Lib.Cold (StaticIs)
theorem consq {a : Array Value} {s : State} {c : Jvm.Cond} {L : List Jvm.Cond} (h0 : c.before a s = true) (h : ∀ w ∈ L, w.before a s = true) : ∀ w ∈ c :: L, w.before a s = true := fun w hw => (List.mem_cons.mp hw).elim (fun e => e ▸ h0) (h w)
/-- the words of String.length(), either coding -/
abbrev wordsLen : List Jvm.Cond := [.code Len.yN Len.yB 1 (some .int), .initialized ST, .fieldLink ST 9 ST "value" "[B", .fieldLink ST 38 ST "COMPACT_STRINGS" "Z", .fieldLink ST 15 ST "coder" "B", .code Cdr.yN Cdr.yB 1 (some .byte), .methodLink ST 335 Cdr.yN, .declares Cdr.yN, .selects ST Cdr.yN Cdr.yN, .instanceMethod Cdr.yN]
theorem tabLen_of {a : Array Value} {s : State} (h : ∀ w ∈ wordsLen, w.before a s = true) : Len.tab.before a s = true := by
  have hc : Cdr.tab.before a s = true := unparts (wk h (.code Cdr.yN Cdr.yB 1 (some .byte))) (wks h (.initialized Cdr.yN.cls :: Cdr.site))
  have q := consq hc h
  exact unparts (wk q (.code Len.yN Len.yB 1 (some .int))) (wks q (.initialized Len.yN.cls :: Len.site))
theorem movedLen {Z s : State} {a0 args : Array Value} (hZ : Z.Warmed39 s.vm) (hw : ∀ d ∈ wordsLen, d.before a0 Z = true) : ∀ d ∈ wordsLen, d.before args s = true := fun d hd => by
  have q := hw d hd
  have t : ∀ d ∈ wordsLen, d = .arrayClass .byte ∨ (d.onTables && d.keepsFace) = true := by decide +kernel
  rcases t d hd with rfl | t
  · exact RoadKit.mvA hZ q
  · exact RoadKit.mv hZ q t
/-- the bytes of the chars cs, low before high -/
def wideBytes : List Int32 → List Value
  | [] => []
  | c :: cs => .int (lo8 c) :: .int (hi8 c) :: wideBytes cs
theorem wide_lo (d : Value) : ∀ (cs : List Int32) (j : Nat), j < cs.length → (wideBytes cs).getD (2 * j) d = .int (lo8 (cs.getD j 0))
  | [], j, h => absurd h (Nat.not_lt_zero j)
  | c :: cs, 0, _ => rfl
  | c :: cs, j + 1, h => by
    have q := wide_lo d cs j (by simpa using h)
    rw [show 2 * (j + 1) = 2 * j + 1 + 1 from by omega]
    simpa [wideBytes] using q
theorem wide_hi (d : Value) : ∀ (cs : List Int32) (j : Nat), j < cs.length → (wideBytes cs).getD (2 * j + 1) d = .int (hi8 (cs.getD j 0))
  | [], j, h => absurd h (Nat.not_lt_zero j)
  | c :: cs, 0, _ => rfl
  | c :: cs, j + 1, h => by
    have q := wide_hi d cs j (by simpa using h)
    rw [show 2 * (j + 1) + 1 = 2 * j + 1 + 1 + 1 from by omega]
    simpa [wideBytes] using q
theorem low_at (d : Value) (cs : List Int32) (j : Nat) (h : j < cs.length) : (cs.map fun c => Value.int (lo8 c)).getD j d = .int (lo8 (cs.getD j 0)) := by
  simp [List.getD_eq_getElem?_getD, h]
/-- an array of N2 bytes vs codes the chars cs by the coder cd -/
def CodA (cs : List Int32) (cd N2 : Int32) (vs : List Value) : Prop := (cd = 0 ∧ N2 = Int32.ofNat cs.length ∧ vs = (cs.map fun c => Value.int (lo8 c)) ∧ ∀ c ∈ cs, ¬ 255 < c) ∨ (cd = 1 ∧ N2 = Int32.ofNat (2 * cs.length) ∧ vs = wideBytes cs ∧ ∃ c ∈ cs, 255 < c)
theorem CodA.cod {cs : List Int32} {cd N2 : Int32} {vs : List Value} {V : Cell} (h : CodA cs cd N2 vs) (hn : 2 * cs.length < 2 ^ 31) (hs : V.slots.size = N2.toNatClampNeg) (hv : RoadKit.Has V vs (.int 0)) : Cod cd cs.length (fun j => cs.getD j 0) V := by
  rcases h with ⟨rfl, rfl, rfl, h⟩ | ⟨rfl, rfl, rfl, c, hc, hw⟩
  · rw [n32 (by omega)] at hs
    exact Or.inl ⟨rfl, hs, fun j hj => ⟨by rw [hv j (by omega), low_at _ _ _ hj], by
      have e : cs.getD j 0 = cs[j] := by simp [List.getD_eq_getElem?_getD, hj]
      show ¬ 255 < cs.getD j 0
      rw [e]; exact h _ (List.getElem_mem _)⟩⟩
  · rw [n32 (by omega)] at hs
    obtain ⟨j, hj, rfl⟩ := List.getElem_of_mem hc
    exact Or.inr ⟨rfl, hs, fun j hj => ⟨by rw [hv _ (by omega), wide_lo _ _ _ hj], by rw [hv _ (by omega), wide_hi _ _ _ hj]⟩, j, hj, by
      have e : cs.getD j 0 = cs[j] := by simp [List.getD_eq_getElem?_getD, hj]
      show 255 < cs.getD j 0
      rw [e]; exact hw⟩
/-- an object of exactly java/lang/String, its two fields found: as the laws ask it -/
theorem strObj {Z U : State} {a0 : Array Value} {kI : Nat} (wi : (Jvm.Cond.instantiable ST kI).before a0 Z = true) (al : Z.vm.Alike U.vm) {x : Addr} {v0 c0 : Value} (E : RoadKit.Exa Z U.heap x ST) (V : RoadKit.Fld Z U.heap x ST "value" "[B" v0) (C : RoadKit.Fld Z U.heap x ST "coder" "B" c0) :
    ∃ (D : Cell) (fV fC : Field), Blank ST x D U ∧ Found ST "value" "[B" fV U ∧ Found ST "coder" "B" fC U ∧ D.slots[fV.slot]? = some v0 ∧ D.slots[fC.slot]? = some c0 ∧ RoadKit.slotOf Z ST "value" "[B" = fV.slot ∧ RoadKit.slotOf Z ST "coder" "B" = fC.slot := by
  obtain ⟨D, cfV, kV, iV, fV, hD, gV, stV, knV, obV, asV, slV⟩ := V
  obtain ⟨D', cfC, kC, iC, fC, hD', gC, stC, -, -, asC, slC⟩ := C
  cases hD.symm.trans hD'
  obtain ⟨D2, kD, e1, e2, e3, e4, e5⟩ := E
  cases hD.symm.trans e1
  obtain ⟨c2, k2, i1, i2, i3, -⟩ := Cond.instantiable_spec wi
  cases e2.symm.trans i1
  cases e3.symm.trans i2
  obtain ⟨kU, u1, u2⟩ := al.2.2 _ _ e3
  exact ⟨D, fV, fC, ⟨hD, ⟨knV, fun q hq => by rw [hq] at obV; cases obV⟩, by rw [al.findClass]; exact e2, kU, u1, by rw [u2]; exact i3, by rw [u2]; exact e5 i3⟩, ⟨SBG.found_only al ⟨cfV, kV, iV, gV⟩, stV⟩, ⟨SBG.found_only al ⟨cfC, kC, iC, gC⟩, stC⟩, slV, slC, by simp [RoadKit.slotOf, gV], by simp [RoadKit.slotOf, gC]⟩
theorem sta_is {Z U : State} (al : Z.vm.Alike U.vm) {C n d : String} {v : Value} (S : RoadKit.Sta Z U.heap C n d v) : StaticIs U C n d v := by
  obtain ⟨cfS, iS, kS, fS, st, cS, t1, t2, t3, t4, t5, t6, t7⟩ := S
  exact StaticIs.there (s := { Z with heap := U.heap }) ⟨cfS, iS, kS, fS, st, cS, t1, t2, t3, t4, t5, (fun q => by rw [q] at t6; cases t6), t7⟩ al rfl
/-- **length() OF SUCH A STRING** -/
theorem lenW {p : Program} {l : Launch} {e : Env} {R : Room} {s : State} {args : Array Value} {below : List Frame} {len W : Nat} {Z : State} {a0 : Array Value} {h : Heap} (hZ : Z.Warmed39 s.vm) (hw : ∀ d ∈ wordsLen, d.before a0 Z = true) {kI : Nat} (wi : (Jvm.Cond.instantiable ST kI).before a0 Z = true)
    {x t : Addr} {kb : ClassId} {cs : List Int32} {cd N2 z : Int32} {vs : List Value} (E : RoadKit.Exa Z h x ST) (V : RoadKit.Fld Z h x ST "value" "[B" (.ref t)) (C : RoadKit.Fld Z h x ST "coder" "B" (.int cd)) (K : RoadKit.Arv Z h t kb .byte N2 vs (.int 0)) (hc : CodA cs cd N2 vs) (hb : ∀ c ∈ cs, ¬ c < 0 ∧ ¬ (65535 : Int32) < c)
    (S : RoadKit.Sta Z h ST "COMPACT_STRINGS" "Z" (.int z)) (hz : ¬ z = 0) (l2 : cs.length ≤ 4000) (hfr : 2 ≤ R.frames) (hlo : W + 25 ≤ R.locals) :
    Back l R p e below s args (⟨"java/lang/String", "length", "()I"⟩ : MethodName) len W (fun P a => a = #[.ref x] ∧ P.U.heap = h ∧ P.cells + 0 ≤ R.cells ∧ P.slots + 0 ≤ R.slots)
      (fun P _ v B => ∃ L, (v = some (.int (Int32.ofNat cs.length)) ∧ L = [] ∧ B.U.heap = h) ∧ B.locs = P.locs ++ L ∧ B.cells = P.cells + 0 ∧ B.slots = P.slots + 0) := by
  obtain ⟨A, K1, K2, K3, K4, K5, K6⟩ := K
  have hcod := hc.cod (by omega) K3 K5
  intro m meth c P g ig mk a X hg hsize hdg hW hn hp'
  obtain ⟨rfl, rfl, r1, r2⟩ := hp'
  have al : Z.vm.Alike P.U.vm := hZ.alike.trans X.warmed.alike
  obtain ⟨D, fV, fC, hB, F1, F2, g1, g2, -, -⟩ := strObj wi al E V C
  have hx : Txt x t A cd cs.length (fun j => cs.getD j 0) P.U := ⟨⟨_, hB.2.2.1, D, hB.1, rfl, by cases q : D.vm <;> first | rfl | exact absurd q (hB.2.1.2 _)⟩, Has.of hB F1 g1, Has.of hB F2 g2, ⟨K1.1, State.isArrayOf_alike al K1.2.1, K1.2.2, by rcases hcod with ⟨-, q, -⟩ | ⟨-, q, -⟩ <;> omega⟩, hcod, fun j hj => by
    have e : cs.getD j 0 = cs[j] := by simp [List.getD_eq_getElem?_getD, hj]
    show ¬ cs.getD j 0 < 0 ∧ ¬ 65535 < cs.getD j 0
    rw [e]; exact hb _ (List.getElem_mem _)⟩
  obtain ⟨v, B, X', ⟨⟨hv, hh⟩, hl, hk, hs⟩, st⟩ := Len.pays x t A cd cs.length (fun j => cs.getD j 0) z (tabLen_of (movedLen hZ hw)) hfr hlo m meth c P g ig mk _ X hg hsize hdg hW hn ⟨r1, r2, rfl, hx, sta_is al S, hz⟩
  exact ⟨v, B, X', ⟨[], ⟨hv, rfl, hh⟩, hl, hk, hs⟩, st⟩
end StrChars.Road
namespace StrChars.Road
open Jvm Sem ClassFile Op Lib Jvm.Stand Jvm.Free Jvm.Free.XT
open Jvm.Lib.Cold (StaticIs)
/-- what backV says of its String, as the contracts of this text ask it: cs's low bytes, coder 0 -/
theorem codOf {cs : List Int32} {n : Nat} (hn : cs.length = n) (hb : ∀ c ∈ cs, ¬ 255 < c) : CodA cs 0 (Int32.ofNat n) ((cs.map lo8).map Value.int) := Or.inl ⟨rfl, by rw [hn], by simp [List.map_map, Function.comp_def], hb⟩
end StrChars.Road
end Jvm.Pilot.@@N@@

namespace Jvm.Pilot.@@N@@.Own
open Jvm Jvm.ClassFile Sem Op Lib Jvm.Free Jvm.Stand Jvm.LawKit Jvm.RoadKit
abbrev ST : String := "java/lang/String"
abbrev Nar (_s : State) (_vm : Vm) : Prop := True
/-- where a walk stands -/
def Sit (p : Program) (l : Launch) (e : Env) (R : Room) (s : State) (m : MethodId) (args : Array Value) (below : List Frame) (meth : Method) (c : Code) (Z : State) (EL : List (String × Nat)) (own : String) (vm : Vm) (T : State) (h : Heap) (k n : Nat) : Prop :=
  ∃ locs : List Loc, Stand p l e R (s.setVm vm) m args below meth c T locs k n ∧ T.heap = h ∧ Z.Warmed39 vm ∧ vm.findClass own = some m.cls ∧ (∃ j, s.Since vm j ∧ j ≤ h.size) ∧ CHr Z EL s.vm s.heap vm h ∧ Fr Z.heap.size locs ∧ Ext Z.heap s.heap ∧ Nar s vm
/-- one step of the heap and the tables: what was kept, what may be booked -/
def Stp (Z : State) (EL : List (String × Nat)) (vm : Vm) (h : Heap) (vm' : Vm) (h' : Heap) (ws : List Addr) : Prop := Keep h h' ws ∧ CHr Z EL vm h vm' h'
def Cl (p : Program) (e : Env) (below : List Frame) (G : State → JFrame → Prop) : Prop := ∀ (T T' : State) (g g' : JFrame), (∀ t, Steps p.tables e below (T'.setTop g') t → Steps p.tables e below (T.setTop g) t) → G T' g' → G T g
def Rt (p : Program) (l : Launch) (e : Env) (R : Room) (s : State) (m : MethodId) (args : Array Value) (below : List Frame) (meth : Method) (c : Code) (Z : State) (EL : List (String × Nat)) (own : String) (Q : Option Value → Heap → Prop) (G : State → JFrame → Prop) : Prop :=
  ∀ (vm : Vm) (T : State) (h : Heap) (k n : Nat) (v : Option Value) (g : JFrame), Sit p l e R s m args below meth c Z EL own vm T h k n → k ≤ R.cells → n ≤ R.slots → (meth.sig.returnType = none → v = none) → Q v h →
    (∀ fs, (∀ (f : JFrame) (acts : List Action), f.method = m → f.locked = none → f.entered = [] → (doReturn e (T.setTop f) acts v).1 = T.setFrames fs) → Steps p.tables e below (T.setTop g) (T.setFrames fs)) → G T g
def Con (l : Launch) (Z : State) (EL : List (String × Nat)) (y : MethodName) (bytes : ByteArray) (maxL : Nat) (ret : Option FieldType) (ws : List Jvm.Cond) (rm : Room) (as : Array Value) (h : Heap) (Q : Option Value → Heap → Prop) : Prop :=
  MetFree l y (head1 (Jvm.Cond.code y bytes maxL ret :: ws) rm) (fun a U => a = as ∧ Z.Warmed39 U.vm ∧ U.heap = h ∧ CHv Z EL U.vm h) (fun _ _ _ _ _ => True) (fun _ U o U' => ∃ v L, o = .returned v ∧ (Q v U'.heap ∧ Fr Z.heap.size L) ∧ CHr Z EL U.vm U.heap U'.vm U'.heap ∧ ReturnedEndW U o U' L rm.cells rm.slots)
section L
variable {p : Program} {l : Launch} {e : Env} {R : Room} {s : State} {m : MethodId} {args : Array Value} {below : List Frame} {meth : Method} {c : Code} {Z : State} {EL : List (String × Nat)} {own : String} {a0 : Array Value} {vm vm' vm'' : Vm} {T T' : State} {h h' h'' : Heap} {k n : Nat} {G : State → JFrame → Prop} {ws ws' us : List Addr} {x a b t : Addr}
theorem irem {tb : Tables} [Ours tb] {target : State} {g : JFrame} (h : At T m c below) (hx : tb.exec = Jvm.exec) (hg : g.method = m) {x y : Int32} {rest : List Value} (hd : decode c.code g.pc = .ok (.irem, 1)) (hs : g.stack = .int y :: .int x :: rest) (hy : y ≠ 0) (hr : Steps tb e below (T.setTop { g with pc := g.pc + 1, stack := .int (x % y) :: rest }) target) : Steps tb e below (T.setTop g) target := by
  have q : x - x / y * y = x % y := irem_eq_mod x y
  exact XS.irem h hx hg hd hs hy (by rw [q]; exact hr)
theorem hw0 {g : JFrame} {rest : List Value} {W : Nat} (h0 : g.monitorRoom = 0) (h : (rest.map fun v => v.category).sum = W) : 2 * g.monitorRoom + (rest.map fun v => v.category).sum ≤ W := by rw [h0, h]; omega
theorem Cl.st (hG : Cl p e below G) {T T' : State} {g g' : JFrame} (f : ∀ t, Steps p.tables e below (T'.setTop g') t → Steps p.tables e below (T.setTop g) t) (q : G T' g') : G T g := hG T T' g g' f q
theorem old_ext {locs : List Loc} (X : Stand p l e R (s.setVm vm) m args below meth c T locs k n) (N : Fr Z.heap.size locs) (O : Ext Z.heap s.heap) : Ext Z.heap T.heap := by
  have hs := X.same
  refine ⟨Nat.le_trans O.1 hs.2.1, fun b cl hcl => ?_⟩
  obtain ⟨c', h1, h2, -, h4⟩ := hs.2.2.2.2.2 b cl (O.2 b cl hcl)
  have hb := (Array.getElem?_eq_some_iff.mp hcl).1
  have hsl : c'.slots = cl.slots := Array.ext_getElem? fun i => h4 i fun hm => absurd (N _ hm) (Nat.not_le.mpr hb)
  have hcc : c' = cl := by rw [h2, hsl]
  rw [← hcc]; exact h1
theorem Sit.here (S : Sit p l e R s m args below meth c Z EL own vm T h k n) : At T m c below := by
  obtain ⟨_, X, -⟩ := S; exact X.here
theorem Sit.warm (S : Sit p l e R s m args below meth c Z EL own vm T h k n) : Z.Warmed39 vm := by
  obtain ⟨_, -, -, q, -⟩ := S; exact q
theorem Sit.ch (S : Sit p l e R s m args below meth c Z EL own vm T h k n) : CHv Z EL vm h := by
  obtain ⟨_, -, -, -, -, -, q, -⟩ := S; exact q.1
theorem Sit.old (S : Sit p l e R s m args below meth c Z EL own vm T h k n) : Ext Z.heap h := by
  obtain ⟨_, X, rfl, -, -, -, -, N, O, -⟩ := S; exact old_ext X N O
theorem Sit.le (S : Sit p l e R s m args below meth c Z EL own vm T h k n) : Z.heap.size ≤ h.size := S.old.1
theorem Sit.mono (S : Sit p l e R s m args below meth c Z EL own vm T h k n) {k' n' : Nat} (hk : k ≤ k') (hn : n ≤ n') : Sit p l e R s m args below meth c Z EL own vm T h k' n' := by
  obtain ⟨locs, X, r⟩ := S
  exact ⟨locs, { X with same := X.same.mono hk hn }, r⟩
theorem Stp.refl (H : CHv Z EL vm h) : Stp Z EL vm h vm h [] := ⟨Keep.refl _ _, CHr.refl H⟩
theorem Stp.trans (A : Stp Z EL vm h vm' h' ws) (B : Stp Z EL vm' h' vm'' h'' ws') (q : ∀ x ∈ ws, x ∈ us) (q' : ∀ x ∈ ws', x ∈ us ∨ h.size ≤ x) : Stp Z EL vm h vm'' h'' us :=
  ⟨Keep.trans ⟨A.1.1, fun x c r z => A.1.2.1 x c r fun y => z (q x y), A.1.2.2⟩ B.1 q', A.2.trans B.2⟩
theorem Stp.mono (A : Stp Z EL vm h vm' h' ws) (q : ∀ x ∈ ws, x ∈ us) : Stp Z EL vm h vm' h' us := ⟨⟨A.1.1, fun x c r z => A.1.2.1 x c r fun y => z (q x y), A.1.2.2⟩, A.2⟩
theorem Stp.of_ext (E : Ext h h') (H : CHv Z EL vm h) : Stp Z EL vm h vm h' [] := ⟨(Keep.refl _ _).ext E, CHr.ext E H⟩
theorem Stp.of_wr {sl : Nat} {v : Value} (W : Wr h h' a sl v) (S : Safe Z EL vm h a) (H : CHv Z EL vm h) : Stp Z EL vm h vm h' [a] := ⟨Keep.of_wr W, CHr.wr W S H⟩
theorem Stp.of_keep (K : Keep h h' ws) (S : ∀ x ∈ ws, Safe Z EL vm h x) (H : CHv Z EL vm h) : Stp Z EL vm h vm h' ws := ⟨K, CHr.keep K S H⟩
theorem Stp.safe (A : Stp Z EL vm h vm' h' ws) (hx : x < h.size) (S : Safe Z EL vm h x) : Safe Z EL vm' h' x := A.2.safe hx S
theorem Stp.fld (A : Stp Z EL vm h vm' h' ws) {C f d : String} {v : Value} (F : Fld Z h a C f d v) (q : a ∉ ws) : Fld Z h' a C f d v := F.keep A.1 q
theorem Stp.exa (A : Stp Z EL vm h vm' h' ws) {C : String} (F : Exa Z h a C) : Exa Z h' a C := F.keep A.1
theorem Stp.arv (A : Stp Z EL vm h vm' h' ws) {kc : ClassId} {ty : FieldType} {z : Int32} {vs : List Value} {d : Value} (F : Arv Z h a kc ty z vs d) (q : a ∉ ws) : Arv Z h' a kc ty z vs d := F.keep A.1 q
theorem keep_mono (K : Keep h h' ws) (q : ∀ x ∈ ws, x ∈ us) : Keep h h' us := ⟨K.1, fun x c r z => K.2.1 x c r fun y => z (q x y), K.2.2⟩
theorem and255 (x : Int32) : ¬ nar .char ((x &&& (255 : Int32)).toUInt32.toUInt16.toUInt32.toInt32) < 0 ∧ ¬ (255 : Int32) < nar .char ((x &&& (255 : Int32)).toUInt32.toUInt16.toUInt32.toInt32) := by
  have e : nar .char ((x &&& (255 : Int32)).toUInt32.toUInt16.toUInt32.toInt32) = x &&& 255 := by
    rw [i2c_mask]; exact i2c_mask x
  rw [e]
  have h := c_and x 255 (by decide)
  have e1 : (255 : Int32).toInt = 255 := rfl
  have e0 : (0 : Int32).toInt = 0 := rfl
  exact ⟨fun q => by rw [Int32.lt_iff_toInt_lt, e0] at q; omega, fun q => by rw [Int32.lt_iff_toInt_lt, e1] at q; omega⟩
/-- a String whose value is still null isn't booked -/
theorem Safe.blank {n : Nat} (hal : Z.vm.Alike vm) (E : Exa Z h x ST) (F : Fld Z h x ST "value" "[B" .null) (wi : (Jvm.Cond.instantiable ST n).before a0 Z = true) : Safe Z EL vm h x := fun B => by
  obtain ⟨p, hp, u, a, hb, q, hqa, hS, hy⟩ := B
  obtain ⟨cS, ⟨⟨s1, s2, s3, ⟨cv, kv, iv, s4, s4'⟩, ⟨cc, kc, ic, s5, s5'⟩, s6, s7, s8, s9, s10, s11, s12, s13, s14, s15, s16⟩, hfS, hcS⟩, ⟨kS, k1, k2, k3⟩, hB, hbyt⟩ := hS
  rcases hy with rfl | rfl
  · obtain ⟨cell, cf, kf, i, f, f1, f2, f3, f4, f5, f6, f7⟩ := F
    obtain ⟨kz, z4⟩ := ff_back (Z := Z) (U := Wst Z vm h) hal s4
    cases f1.symm.trans (show h[q.sa]? = some q.sC from s1)
    rw [show Z.fieldFound? ST "value" "[B" = _ from z4] at f2
    injection f2 with f2
    simp only [Prod.mk.injEq] at f2
    obtain ⟨-, -, -, rfl⟩ := f2
    rw [s8] at f7
    injection f7 with f7
    cases f7
  · obtain ⟨cell, kx, f1, f2, f3, f4, f5⟩ := E
    cases f1.symm.trans (show h[q.sd]? = some q.SA from s10)
    obtain ⟨cI, kI, g1, g2, g3, -⟩ := Cond.instantiable_spec wi
    cases f2.symm.trans g1
    cases f3.symm.trans g2
    obtain ⟨-, k9, hk9, comp, hkind9⟩ := s11
    obtain ⟨k', hk', ek'⟩ := hal.2.2 _ _ g2
    cases hk'.symm.trans (show vm.classes[q.SA.cls]? = some k9 from hk9)
    rw [ek'] at hkind9
    exact absurd (g3.symm.trans hkind9) (by simp)
def Str (Z : State) (h : Heap) (x t : Addr) (cs : List Int32) : Prop := ∃ kb : ClassId, Exa Z h x ST ∧ Fld Z h x ST "value" "[B" (.ref t) ∧ Fld Z h x ST "coder" "B" (.int 0) ∧ Arv Z h t kb .byte (Int32.ofNat cs.length) ((cs.map fun c => c.toInt8.toInt32).map Value.int) (.int 0) ∧ (∀ c ∈ cs, ¬ c < 0 ∧ ¬ (255 : Int32) < c) ∧ cs.length ≤ 4000
theorem Str.exa {cs : List Int32} (F : Str Z h x t cs) : Exa Z h x ST := by obtain ⟨_, q, -⟩ := F; exact q
theorem Str.lt {cs : List Int32} (F : Str Z h x t cs) : x < h.size := F.exa.lt
theorem Str.ltB {cs : List Int32} (F : Str Z h x t cs) : t < h.size := by obtain ⟨_, -, -, -, q, -⟩ := F; exact q.lt
theorem Str.ext {cs : List Int32} (F : Str Z h x t cs) (E : Ext h h') : Str Z h' x t cs := by
  obtain ⟨kb, q1, q2, q3, q4, q5⟩ := F; exact ⟨kb, q1.ext E, q2.ext E, q3.ext E, q4.ext E, q5⟩
theorem Stp.str (A : Stp Z EL vm h vm' h' ws) {cs : List Int32} (F : Str Z h x t cs) (q : x ∉ ws) (r : t ∉ ws) : Str Z h' x t cs := by
  obtain ⟨kb, q1, q2, q3, q4, q5⟩ := F; exact ⟨kb, A.exa q1, A.fld q2 q, A.fld q3 q, A.arv q4 r, q5⟩
theorem Str.neB {cs : List Int32} {C : String} {n : Nat} (F : Str Z h x t cs) (E : Exa Z h a C) (w : (Jvm.Cond.instantiable C n).before a0 Z = true) : t ≠ a := by
  obtain ⟨_, -, -, -, q, -⟩ := F; exact (E.neArv q w).symm
theorem Str.ne {cs : List Int32} {C : String} (F : Str Z h x t cs) (E : Exa Z h a C) (q : C ≠ ST) : x ≠ a := (E.ne F.exa q).symm
theorem arr_neK {k1 k2 : ClassId} {t1 t2 : FieldType} {z1 z2 : Int32} {v1 v2 : List Value} {d1 d2 : Value} (A : Arv Z h a k1 t1 z1 v1 d1) (B : Arv Z h b k2 t2 z2 v2 d2) (q : t1 ≠ t2) : a ≠ b := fun e => by
  subst e
  obtain ⟨c1, ⟨p1, ⟨-, kA, r1, m1, s1⟩, -⟩, -⟩ := A
  obtain ⟨c2, ⟨p2, ⟨-, kB, r2, m2, s2⟩, -⟩, -⟩ := B
  cases p1.symm.trans p2
  cases r1.symm.trans r2
  exact q (by have := s1.symm.trans s2; injection this)
theorem Str.neV {cs : List Int32} {kc : ClassId} {ty : FieldType} {z : Int32} {vs : List Value} {d : Value} (F : Str Z h x t cs) (A : Arv Z h a kc ty z vs d) (q : ty ≠ .byte) : t ≠ a := by
  obtain ⟨_, -, -, -, r, -⟩ := F; exact arr_neK r A (Ne.symm q)
theorem Str.neX {cs : List Int32} {n : Nat} {kc : ClassId} {ty : FieldType} {z : Int32} {vs : List Value} {d : Value} (F : Str Z h x t cs) (A : Arv Z h a kc ty z vs d) (w : (Jvm.Cond.instantiable ST n).before a0 Z = true) : x ≠ a := F.exa.neArv A w
/-- Stepping laws. -/
theorem Sit.getF (hG : Cl p e below G) (S : Sit p l e R s m args below meth c Z EL own vm T h k n) (hx : p.tables.exec = Jvm.exec) {R0 O nm d host : String} {index : Nat} (w : (Jvm.Cond.fieldLink own index R0 nm d).before a0 Z = true ∨ (Jvm.Cond.fieldLinkNest own index R0 nm d host).before a0 Z = true) (via : Via Z R0 O nm d) {v : Value} (F : Fld Z h a O nm d v)
    {g : JFrame} (hg : g.method = m) {rest : List Value} (hs : g.stack = .ref a :: rest) (hd : decode c.code g.pc = .ok (.getfield index, 3)) (K : ∀ T', Sit p l e R s m args below meth c Z EL own vm T' h k n → G T' { g with pc := g.pc + 3, stack := v :: rest }) : G T g := by
  obtain ⟨locs, X, eT, hZ, hown, r⟩ := S
  obtain ⟨T', X', e', st⟩ := RoadKit.getF X hx hZ hown w via eT F hg hs hd
  exact hG.st st (K T' ⟨locs, X', e', hZ, hown, r⟩)
theorem Sit.getS (hG : Cl p e below G) (S : Sit p l e R s m args below meth c Z EL own vm T h k n) (hx : p.tables.exec = Jvm.exec) {R0 O nm d host : String} {index : Nat} (w : (Jvm.Cond.fieldLink own index R0 nm d).before a0 Z = true ∨ (Jvm.Cond.fieldLinkNest own index R0 nm d host).before a0 Z = true) (via : Via Z R0 O nm d) {v : Value} (F : Sta Z h O nm d v)
    {g : JFrame} (hg : g.method = m) (hd : decode c.code g.pc = .ok (.getstatic index, 3)) (K : ∀ T', Sit p l e R s m args below meth c Z EL own vm T' h k n → G T' { g with pc := g.pc + 3, stack := v :: g.stack }) : G T g := by
  obtain ⟨locs, X, eT, hZ, hown, r⟩ := S
  obtain ⟨T', X', e', st⟩ := RoadKit.getS2 X hx hZ hown w via eT F hg hd
  exact hG.st st (K T' ⟨locs, X', e', hZ, hown, r⟩)
theorem fr_one {locs : List Loc} {sl : Nat} (N : Fr Z.heap.size locs) (ga : Z.heap.size ≤ a) : Fr Z.heap.size (locs ++ [⟨a, sl⟩]) := N.app fun y hy => by cases List.mem_singleton.mp hy; exact ga
theorem Sit.putF (hG : Cl p e below G) (S : Sit p l e R s m args below meth c Z EL own vm T h k n) (hx : p.tables.exec = Jvm.exec) {R0 O nm d host C : String} {index kk : Nat} {ty : FieldType} (w : (Jvm.Cond.fieldLink own index R0 nm d).before a0 Z = true ∨ (Jvm.Cond.fieldLinkNest own index R0 nm d host).before a0 Z = true) (via : Via Z R0 O nm d) {v old : Value} (F : Fld Z h a O nm d old) (E : Exa Z h a C)
    (L : (Jvm.Cond.lays C O nm d).before a0 Z = true ∨ ((Jvm.Cond.laysFinal C O nm d).before a0 Z = true ∧ own = O ∧ meth.name = "<init>")) (wi : (Jvm.Cond.instantiable C kk).before a0 Z = true) (hty : parseFieldDescriptor d = some ty) (hn : narrow ty v = v) (hf : fits ty v = true) (ga : Z.heap.size ≤ a) (sf : Safe Z EL vm h a)
    {g : JFrame} (hg : g.method = m) {rest : List Value} (hs : g.stack = v :: .ref a :: rest) (hd : decode c.code g.pc = .ok (.putfield index, 3)) (K : ∀ T' h', Sit p l e R s m args below meth c Z EL own vm T' h' k n → Stp Z EL vm h vm h' [a] → Wr h h' a (RoadKit.slotOf Z O nm d) v → Fld Z h' a O nm d v → G T' { g with pc := g.pc + 3, stack := rest }) : G T g := by
  obtain ⟨locs, X, eT, hZ, hown, ⟨j, hS, hj⟩, C0, N, r⟩ := S
  obtain ⟨T', h', X', e', W, st⟩ := RoadKit.putF X hx hZ hown w via eT F E L wi hty hn hf hg hs hd
  have J := Stp.of_wr W sf C0.1
  exact hG.st st (K T' h' ⟨_, X', e', hZ, hown, ⟨j, hS, Nat.le_trans hj J.1.1⟩, C0.trans J.2, fr_one N ga, r⟩ J W (F.same W))
theorem Sit.newO (hG : Cl p e below G) (S : Sit p l e R s m args below meth c Z EL own vm T h k n) (hx : p.tables.exec = Jvm.exec) {C : String} {index nn : Nat} (w : (Jvm.Cond.classLink own index C).before a0 Z = true) (wi : (Jvm.Cond.instantiable C nn).before a0 Z = true) (wz : (Jvm.Cond.initialized C).before a0 Z = true)
    {g : JFrame} (hg : g.method = m) (hd : decode c.code g.pc = .ok (.new index, 3)) (hc : k + 1 ≤ R.cells) (hl : n + nn ≤ R.slots)
    (K : ∀ T' h' x, x = h.size → Sit p l e R s m args below meth c Z EL own vm T' h' (k + 1) (n + nn) → Stp Z EL vm h vm h' [] → Safe Z EL vm h' x → Exa Z h' x C → (∀ {O nm d : String} {ty : FieldType}, Laid Z a0 C O nm d → parseFieldDescriptor d = some ty → Fld Z h' x O nm d (defaultValue ty)) → G T' { g with pc := g.pc + 3, stack := .ref x :: g.stack }) : G T g := by
  obtain ⟨locs, X, eT, hZ, hown, ⟨j, hS, hj⟩, C0, r⟩ := S
  obtain ⟨T', h', X', e', E, A, D, -, st⟩ := RoadKit.newO X hx hZ hown w wi wz eT hg hd hc hl
  exact hG.st st (K T' h' _ rfl ⟨locs, X', e', hZ, hown, ⟨j, hS, Nat.le_trans hj E.1⟩, C0.trans (CHr.ext E C0.1), r⟩ (Stp.of_ext E C0.1) (Safe.ext E C0.1 (Safe.new (Nat.le_refl _))) A D)
theorem Sit.newP (hG : Cl p e below G) (S : Sit p l e R s m args below meth c Z EL own vm T h k n) (hx : p.tables.exec = Jvm.exec) {aty : ArrayType} (w : (Jvm.Cond.arrayClass (newarray.typeOf aty)).before a0 Z = true) {g : JFrame} (hg : g.method = m) (hd : decode c.code g.pc = .ok (.newarray aty, 2)) {z : Int32} {rest : List Value} (hs : g.stack = .int z :: rest)
    (hz : ¬ z < 0) {cap : Nat} (hcap : z.toNatClampNeg ≤ cap) (hb : cap * 8 ≤ 536870912) (hc : k + 1 ≤ R.cells) (hl : n + cap ≤ R.slots)
    (K : ∀ T' h' x cA, x = h.size → Sit p l e R s m args below meth c Z EL own vm T' h' (k + 1) (n + cap) → Stp Z EL vm h vm h' [] → Safe Z EL vm h' x → Arv Z h' x cA (newarray.typeOf aty) z (List.replicate z.toNatClampNeg (defaultValue (newarray.typeOf aty))) (defaultValue (newarray.typeOf aty)) → G T' { g with pc := g.pc + 2, stack := .ref x :: rest }) : G T g := by
  obtain ⟨locs, X, eT, hZ, hown, ⟨j, hS, hj⟩, C0, r⟩ := S
  obtain ⟨T', h', cA, X', e', E, A, st⟩ := RoadKit.newP X hx hZ w eT hg hd hs hz hcap hb hc hl
  exact hG.st st (K T' h' _ cA rfl ⟨locs, X', e', hZ, hown, ⟨j, hS, Nat.le_trans hj E.1⟩, C0.trans (CHr.ext E C0.1), r⟩ (Stp.of_ext E C0.1) (Safe.ext E C0.1 (Safe.new (Nat.le_refl _))) ((Arv.new A hz).pad (pad_rep [] _ _)))
theorem Sit.stC (hG : Cl p e below G) (S : Sit p l e R s m args below meth c Z EL own vm T h k n) (hx : p.tables.exec = Jvm.exec) {kc : ClassId} {z : Int32} {vs : List Value} {d : Value} (V : Arv Z h a kc .char z vs d) (ga : Z.heap.size ≤ a) {j y : Int32} (hj : ¬ j < 0 ∧ j < z) (i : Nat) (hi : j.toNatClampNeg = i) (hil : i < vs.length)
    {g : JFrame} (hg : g.method = m) {rest : List Value} (hs : g.stack = .int y :: .int j :: .ref a :: rest) (hd : decode c.code g.pc = .ok (.castore, 1)) (K : ∀ T' h', Sit p l e R s m args below meth c Z EL own vm T' h' k n → Stp Z EL vm h vm h' [a] → Arv Z h' a kc .char z (vs.set i (.int (nar .char y))) d → G T' { g with pc := g.pc + 1, stack := rest }) : G T g := by
  obtain ⟨locs, X, eT, hZ, hown, ⟨jj, hS, hjj⟩, C0, N, r⟩ := S
  obtain ⟨cl, A, q1, q2, q3, q4, q5⟩ := V
  obtain ⟨T', h', X', e', W, st⟩ := RoadKit.stC X hx hZ eT A (inb_of q2 hj) hg hs hd
  have J := Stp.of_wr W (Safe.arr hZ.alike A (by decide)) C0.1
  exact hG.st st (K T' h' ⟨_, X', e', hZ, hown, ⟨jj, hS, Nat.le_trans hjj J.1.1⟩, C0.trans J.2, fr_one N ga, r⟩ J (Arv.set A q1 q2 q3 q4 q5 (fits_nar_char _) W i hi hil))
theorem Sit.stB (hG : Cl p e below G) (S : Sit p l e R s m args below meth c Z EL own vm T h k n) (hx : p.tables.exec = Jvm.exec) {kc : ClassId} {z : Int32} {vs : List Value} {d : Value} (V : Arv Z h a kc .byte z vs d) (ga : Z.heap.size ≤ a) (sf : Safe Z EL vm h a) {j y : Int32} (hj : ¬ j < 0 ∧ j < z) (i : Nat) (hi : j.toNatClampNeg = i) (hil : i < vs.length)
    {g : JFrame} (hg : g.method = m) {rest : List Value} (hs : g.stack = .int y :: .int j :: .ref a :: rest) (hd : decode c.code g.pc = .ok (.bastore, 1)) (K : ∀ T' h', Sit p l e R s m args below meth c Z EL own vm T' h' k n → Stp Z EL vm h vm h' [a] → Arv Z h' a kc .byte z (vs.set i (.int (nar .byte y))) d → G T' { g with pc := g.pc + 1, stack := rest }) : G T g := by
  obtain ⟨locs, X, eT, hZ, hown, ⟨jj, hS, hjj⟩, C0, N, r⟩ := S
  obtain ⟨cl, A, q1, q2, q3, q4, q5⟩ := V
  obtain ⟨T', h', X', e', W, st⟩ := RoadKit.stB X hx hZ eT A (inb_of q2 hj) hg hs hd
  have J := Stp.of_wr W sf C0.1
  exact hG.st st (K T' h' ⟨_, X', e', hZ, hown, ⟨jj, hS, Nat.le_trans hjj J.1.1⟩, C0.trans J.2, fr_one N ga, r⟩ J (Arv.set A q1 q2 q3 q4 q5 (fits_nar_byte _) W i hi hil))
theorem Sit.caload (hG : Cl p e below G) (S : Sit p l e R s m args below meth c Z EL own vm T h k n) (hx : p.tables.exec = Jvm.exec) {kc : ClassId} {z : Int32} {vs : List Value} {d : Value} (V : Arv Z h a kc .char z vs d) {j : Int32} (hj : ¬ j < 0 ∧ j < z) {v : Value} (hv : vs.getD j.toNatClampNeg d = v)
    {g : JFrame} (hg : g.method = m) {rest : List Value} (hs : g.stack = .int j :: .ref a :: rest) (hd : decode c.code g.pc = .ok (.caload, 1)) (q : G T { g with pc := g.pc + 1, stack := v :: rest }) : G T g := by
  obtain ⟨locs, X, eT, hZ, hown, r⟩ := S
  obtain ⟨cl, A, q1, q2, q3, q4, q5⟩ := V
  exact hG.st (fun t q => X.caload hx (by rw [eT]; exact A.1) (State.isArrayOf_alike hZ.alike A.2.1) A.2.2 (inb_of q2 hj) (q4.at (inb_of q2 hj) hv) hg hs hd t q) q
theorem Sit.aaload (hG : Cl p e below G) (S : Sit p l e R s m args below meth c Z EL own vm T h k n) (hx : p.tables.exec = Jvm.exec) {kc : ClassId} {ty : FieldType} {z : Int32} {vs : List Value} {d : Value} (V : Arv Z h a kc ty z vs d) (hty : ty.isReference = true) {j : Int32} (hj : ¬ j < 0 ∧ j < z) {v : Value} (hv : vs.getD j.toNatClampNeg d = v)
    {g : JFrame} (hg : g.method = m) {rest : List Value} (hs : g.stack = .int j :: .ref a :: rest) (hd : decode c.code g.pc = .ok (.aaload, 1)) (q : G T { g with pc := g.pc + 1, stack := v :: rest }) : G T g := by
  obtain ⟨locs, X, eT, hZ, hown, r⟩ := S
  obtain ⟨cl, A, q1, q2, q3, q4, q5⟩ := V
  exact hG.st (fun t q => X.aaload hx (by rw [eT]; exact A.1) (State.isArrayOf_alike hZ.alike A.2.1) hty A.2.2 (inb_of q2 hj) (q4.at (inb_of q2 hj) hv) hg hs hd t q) q
theorem Sit.arraylength (hG : Cl p e below G) (S : Sit p l e R s m args below meth c Z EL own vm T h k n) (hx : p.tables.exec = Jvm.exec) {kc : ClassId} {ty : FieldType} {z : Int32} {vs : List Value} {d : Value} (V : Arv Z h a kc ty z vs d)
    {g : JFrame} (hg : g.method = m) {rest : List Value} (hs : g.stack = .ref a :: rest) (hd : decode c.code g.pc = .ok (.arraylength, 1)) (q : G T { g with pc := g.pc + 1, stack := .int z :: rest }) : G T g := by
  obtain ⟨locs, X, eT, hZ, hown, r⟩ := S
  obtain ⟨cl, A, q1, q2, q3, q4, q5⟩ := V
  exact hG.st (fun t q => X.arraylength hx (by rw [eT]; exact A.1) (State.isArrayOf_alike hZ.alike A.2.1) hg hs hd t (by rw [len_of q2 q3]; exact q)) q
theorem Sit.acmp (hG : Cl p e below G) (S : Sit p l e R s m args below meth c Z EL own vm T h k n) (hx : p.tables.exec = Jvm.exec) {g : JFrame} (hg : g.method = m) {cd : ACond} {v w : Value} (h1 : v.isRef = true) (h2 : w.isRef = true) {rest : List Value} {o : Int} {pc0 pc' : Nat} {same : Bool} (hpc : g.pc = pc0)
    (hd : decode c.code g.pc = .ok (.if_acmp cd o, 3)) (hs : g.stack = w :: v :: rest) (hq : decide (v = w) = same) (ho : 0 ≤ (pc0 : Int) + o) (hp : pc' = if acV cd same = true then ((pc0 : Int) + o).toNat else pc0 + 3) (q : G T { g with pc := pc', stack := rest }) : G T g := by
  obtain ⟨_, X, -⟩ := S
  exact hG.st (fun t r => RoadKit.acmp X hx hg h1 h2 hpc hd hs hq ho hp r) q
theorem Sit.instNull (hG : Cl p e below G) (S : Sit p l e R s m args below meth c Z EL own vm T h k n) (hx : p.tables.exec = Jvm.exec) {g : JFrame} (hg : g.method = m) {rest : List Value} (hs : g.stack = .null :: rest) {i : Nat} (hd : decode c.code g.pc = .ok (.instanceof i, 3)) (q : G T { g with pc := g.pc + 3, stack := .int 0 :: rest }) : G T g := by
  obtain ⟨_, X, -⟩ := S
  exact hG.st (fun t r => X.instanceofNull hx hg hs hd t r) q
theorem Sit.castNull (hG : Cl p e below G) (S : Sit p l e R s m args below meth c Z EL own vm T h k n) (hx : p.tables.exec = Jvm.exec) {g : JFrame} (hg : g.method = m) {rest : List Value} (hs : g.stack = .null :: rest) {i : Nat} (hd : decode c.code g.pc = .ok (.checkcast i, 3)) (q : G T { g with pc := g.pc + 3 }) : G T g := by
  obtain ⟨_, X, -⟩ := S
  exact hG.st (fun t r => X.checkcastNull hx hg hs hd t r) q
theorem Sit.ldcI (hG : Cl p e below G) (S : Sit p l e R s m args below meth c Z EL own vm T h k n) (hx : p.tables.exec = Jvm.exec) {index : Nat} {z : Int32} (w : (Jvm.Cond.constant own index z).before a0 Z = true) {g : JFrame} (hg : g.method = m) (hd : decode c.code g.pc = .ok (.ldc index, 2)) (q : G T { g with pc := g.pc + 2, stack := .int z :: g.stack }) : G T g := by
  obtain ⟨_, X, _, hZ, hown, -⟩ := S
  exact hG.st (fun t r => X.ldcInt hx hown (mvT hZ w) hg hd t r) q
theorem Sit.initO (hG : Cl p e below G) (S : Sit p l e R s m args below meth c Z EL own vm T h k n) (hx : p.tables.exec = Jvm.exec) {idx : Nat} (w1 : (Jvm.Cond.methodLink own idx Lib.objectInit).before a0 Z = true) (w2 : (Jvm.Cond.instanceMethod Lib.objectInit).before a0 Z = true) (w3 : (Jvm.Cond.code Lib.objectInit ⟨#[0xb1]⟩ 1 none).before a0 Z = true)
    {g : JFrame} (hg : g.method = m) (hsize : g.locals.size = c.maxLocals) {rest : List Value} (hs : g.stack = .ref a :: rest) (hd : decode c.code g.pc = .ok (.invokespecial idx, 3)) (hf : 1 ≤ R.frames) {W : Nat} (hW : 2 * g.monitorRoom + (rest.map fun v => v.category).sum ≤ W) (hl : W + 12 ≤ R.locals)
    (K : ∀ T', Sit p l e R s m args below meth c Z EL own vm T' h k n → G T' { g with pc := g.pc + 3, stack := rest }) : G T g := by
  obtain ⟨locs, X, eT, hZ, hown, r⟩ := S
  obtain ⟨T', X', e', st⟩ := RoadKit.initO X hx hZ hown w1 w2 w3 eT hg hsize hs hd hf hW hl
  exact hG.st st (K T' ⟨locs, X', e', hZ, hown, r⟩)
theorem Sit.castY (hG : Cl p e below G) (S : Sit p l e R s m args below meth c Z EL own vm T h k n) (hx : p.tables.exec = Jvm.exec) {K0 : String} {index : Nat} (w : (Jvm.Cond.classLink own index K0).before a0 Z = true) (F : Ins Z h a K0 true)
    {g : JFrame} (hg : g.method = m) {rest : List Value} (hs : g.stack = .ref a :: rest) (hd : decode c.code g.pc = .ok (.checkcast index, 3)) (K : ∀ T', Sit p l e R s m args below meth c Z EL own vm T' h k n → G T' { g with pc := g.pc + 3 }) : G T g := by
  obtain ⟨locs, X, eT, hZ, hown, r⟩ := S
  obtain ⟨T', X', e', st⟩ := RoadKit.castY X hx hZ hown w eT F hg hs hd
  exact hG.st st (K T' ⟨locs, X', e', hZ, hown, r⟩)
theorem Sit.cloneA (hG : Cl p e below G) (S : Sit p l e R s m args below meth c Z EL own vm T h k n) (hx : p.tables.exec = Jvm.exec) {ad : String} {index : Nat}
    (w1 : (Jvm.Cond.methodLink own index ⟨ad, "clone", "()Ljava/lang/Object;"⟩).before a0 Z = true) (w2 : (Jvm.Cond.sameMethod ad "java/lang/Object" "clone" "()Ljava/lang/Object;").before a0 Z = true) (w3 : (Jvm.Cond.native ⟨"java/lang/Object", "clone", "()Ljava/lang/Object;"⟩).before a0 Z = true)
    (w4 : (Jvm.Cond.instanceMethod ⟨"java/lang/Object", "clone", "()Ljava/lang/Object;"⟩).before a0 Z = true) (w5 : (Jvm.Cond.selects ad ⟨ad, "clone", "()Ljava/lang/Object;"⟩ ⟨"java/lang/Object", "clone", "()Ljava/lang/Object;"⟩).before a0 Z = true) (w6 : (Jvm.Cond.castable ad "java/lang/Cloneable").before a0 Z = true)
    {kc : ClassId} {ty : FieldType} {z : Int32} {vs : List Value} {d : Value} (F : Arv Z h a kc ty z vs d) (E : Exa Z h a ad) {g : JFrame} (hg : g.method = m) (hsize : g.locals.size = c.maxLocals) {rest : List Value} (hst : g.stack = .ref a :: rest) (hd : decode c.code g.pc = .ok (.invokevirtual index, 3))
    (hf : 1 ≤ R.frames) {W cap : Nat} (hW : 2 * g.monitorRoom + (rest.map fun v => v.category).sum ≤ W) (hl : W + 14 ≤ R.locals) (hcap : z.toNatClampNeg ≤ cap) (hc : k + 1 ≤ R.cells) (hsl : n + cap ≤ R.slots)
    (K : ∀ T' h' x, x = h.size → Sit p l e R s m args below meth c Z EL own vm T' h' (k + 1) (n + cap) → Stp Z EL vm h vm h' [] → Arv Z h' x kc ty z vs d → Exa Z h' x ad → G T' { g with pc := g.pc + 3, stack := .ref x :: rest }) : G T g := by
  obtain ⟨locs, X, eT, hZ, hown, ⟨j, hS, hj⟩, C0, r⟩ := S
  obtain ⟨T', h', X', e', E', A, D, st⟩ := RoadKit.cloneH X hx hZ hown w1 w2 w3 w4 w5 w6 eT F.arh E hg hsize hst hd hf hW hl hcap hc hsl
  exact hG.st st (K T' h' _ rfl ⟨locs, X', e', hZ, hown, ⟨j, hS, Nat.le_trans hj E'.1⟩, C0.trans (CHr.ext E' C0.1), r⟩ (Stp.of_ext E' C0.1) A D)
theorem Sit.ldc (hG : Cl p e below G) (S : Sit p l e R s m args below meth c Z EL own vm T h k n) (hx : p.tables.exec = Jvm.exec) (hEL : EW Z a0 EL) {text : String} {index : Nat} (w : (Jvm.Cond.stringLink own index text).before a0 Z = true) (wS : ∀ a ∈ Bundle.stringAtoms, a.before a0 Z = true) (hmem : (own, index) ∈ EL) {cs : List Int32}
    (ht : (∀ c ∈ text.toList, c.toNat < 256) ∧ text.toList.map (fun c => Value.int (Jvm.Lit.byteI c.toNat.toUInt16)) = (cs.map fun c => c.toInt8.toInt32).map Value.int) (hcs : ∀ c ∈ cs, ¬ c < 0 ∧ ¬ (255 : Int32) < c) (hlen : cs.length ≤ 4000)
    {g : JFrame} (hg : g.method = m) (hd : decode c.code g.pc = .ok (.ldc index, 2)) {nn : Nat} (hn : 4 * text.toList.length ≤ nn) (hbig : nn ≤ 536870912) (hc : k + 2 ≤ R.cells) (hl' : n + (nn + 4) ≤ R.slots)
    (K : ∀ vm' T' h' a b, Sit p l e R s m args below meth c Z EL own vm' T' h' (k + 2) (n + (nn + 4)) → Stp Z EL vm h vm' h' [] → Str Z h' a b cs → (∀ x, Safe Z EL vm' h' x → x ≠ a ∧ x ≠ b) → G T' { g with pc := g.pc + 2, stack := .ref a :: g.stack }) : G T g := by
  obtain ⟨locs, X, eT, hZ, hown, ⟨j, hS, hj⟩, C0, N, O, r⟩ := S
  have hz : ¬ Int32.ofNat cs.length < 0 := by rw [Int32.lt_iff_toInt_lt, Int32.toInt_ofNat_small (by omega)]; exact Int.not_lt.mpr (Int.natCast_nonneg _)
  have hl : (Int32.ofNat cs.length).toNatClampNeg = ((cs.map fun c => c.toInt8.toInt32).map Value.int).length := by simp [Int32.toNatClampNeg, Int32.toInt_ofNat_small (show cs.length < 2 ^ 31 by omega)]
  obtain ⟨a, T', h', k1, b, kb, X', e', E, hS', hk', hZ', hown', E1, F1, F2, V1, -, -, C1, -, sf, st⟩ := ldcCH X hx hZ hown w wS eT hS hj hEL hmem C0.1 ht hz hl hg hd hn hbig hc hl'
  exact hG.st st (K _ T' h' a b ⟨locs, X', e', hZ', hown', ⟨k1, hS', hk'⟩, C0.trans C1, N, O, r⟩ ⟨(Keep.refl _ _).ext E, C1⟩ ⟨kb, E1, F2, F1, V1, hcs, hlen⟩ sf)
theorem afterS {locs L : List Loc} {U : State} {k' n' : Nat} (eT : T.heap = h) (hZ : Z.Warmed39 vm) (hown : vm.findClass own = some m.cls) (hS : ∃ j, s.Since vm j ∧ j ≤ h.size) (C : CHr Z EL s.vm s.heap vm h) (N : Fr Z.heap.size locs) (O : Ext Z.heap s.heap)
    (X' : Stand p l e R ((s.setVm vm).setVm U.vm) m args below meth c U (locs ++ L) k' n') (h2 : (s.setVm vm).Since U.vm U.heap.size) (g2 : T.heap.size ≤ U.heap.size) (N' : Fr Z.heap.size L) (C' : CHr Z EL vm h U.vm U.heap) : Sit p l e R s m args below meth c Z EL own U.vm U U.heap k' n' := by
  obtain ⟨j, hS, hj⟩ := hS
  obtain ⟨q1, q2, q3, q4⟩ := rebS (Z := Z) (own := own) hS hj X' h2 (eT ▸ g2) hZ hown
  exact ⟨_, q1, rfl, q3, q4, ⟨_, q2, Nat.le_refl _⟩, C.trans C', N.app N', O, trivial⟩
/-- calls by contract -/
theorem Sit.callS (hG : Cl p e below G) (S : Sit p l e R s m args below meth c Z EL own vm T h k n) (hx : p.tables.exec = Jvm.exec) (hEL : EW Z a0 EL) {index : Nat} {y : MethodName} {bytes : ByteArray} {maxL : Nat} {ret : Option FieldType} {rm : Room} {as : List Value} {Q : Option Value → Heap → Prop}
    (wl : (Jvm.Cond.methodLink own index y).before a0 Z = true) (wt : (Jvm.Cond.static y).before a0 Z = true) (wz : (Jvm.Cond.initialized y.cls).before a0 Z = true) (wc : (Jvm.Cond.code y bytes maxL ret).before a0 Z = true) (hy : y.cls ≠ "java/lang/invoke/MethodHandle" ∧ y.cls ≠ "java/lang/invoke/VarHandle")
    (hM : Con l Z EL y bytes maxL ret [] rm as.toArray h Q) {ps : List FieldType} {r : Option FieldType} (hd0 : parseMethodDescriptor y.desc = some ⟨ps, r⟩) (hlen : as.length = ps.length)
    {g : JFrame} (hg : g.method = m) (hsize : g.locals.size = c.maxLocals) {rest : List Value} (hs : g.stack = as.reverse ++ rest) {W : Nat} (hW : 2 * g.monitorRoom + (rest.map fun v => v.category).sum ≤ W) (hd : decode c.code g.pc = .ok (.invokestatic index, 3))
    (hf : rm.frames + 1 ≤ R.frames) (hl : W + (maxL + 11) + rm.locals ≤ R.locals) (hc : k + rm.cells ≤ R.cells) (hsl : n + rm.slots ≤ R.slots)
    (K : ∀ v vm' T' h', Sit p l e R s m args below meth c Z EL own vm' T' h' (k + rm.cells) (n + rm.slots) → CHr Z EL vm h vm' h' → Q v h' → G T' { g with pc := g.pc + 3, stack := v.toList ++ rest }) : G T g := by
  obtain ⟨locs, X, eT, hZ, hown, hS, C, N, O, hn⟩ := S
  obtain ⟨v, vm1, ⟨U, L', k', n'⟩, -, X', h2, g2, ⟨L, ⟨hQ, hF⟩, q1, q2, q3, hC⟩, st⟩ := callSS X hx hown (mvT hZ wl) (mvT hZ wt) (mvT hZ wz) (mvT hZ wc) hy (backOfSH (W := W) (Q := fun v h L => Q v h ∧ Fr Z.heap.size L) hM hZ wc wz hf hl hEL C.1) hg hsize (lenOf hd0 hlen) hs hW hd (fun _ _ => ⟨rfl, eT, hc, hsl⟩)
  dsimp only [Pt.U, Pt.locs, Pt.cells, Pt.slots] at X' h2 g2 hQ q1 q2 q3 hC st
  subst q1 q2 q3
  exact hG.st (fun t q => st.trans q) (K v U.vm U U.heap (afterS eT hZ hown hS C N O X' h2 g2 hF hC) hC hQ)
theorem Sit.callV (hG : Cl p e below G) (S : Sit p l e R s m args below meth c Z EL own vm T h k n) (hx : p.tables.exec = Jvm.exec) (hEL : EW Z a0 EL) {C : String} {index : Nat} {y : MethodName} {bytes : ByteArray} {maxL : Nat} {ret : Option FieldType} {rm : Room} {as : List Value} {Q : Option Value → Heap → Prop}
    (wl : (Jvm.Cond.methodLink own index y).before a0 Z = true) (wd : (Jvm.Cond.declares y).before a0 Z = true) (wsl : (Jvm.Cond.selects C y y).before a0 Z = true) (wim : (Jvm.Cond.instanceMethod y).before a0 Z = true) (wz : (Jvm.Cond.initialized y.cls).before a0 Z = true) (wc : (Jvm.Cond.code y bytes maxL ret).before a0 Z = true) (hy : y.cls ≠ "java/lang/invoke/MethodHandle" ∧ y.cls ≠ "java/lang/invoke/VarHandle")
    (E : Exa Z h b C) (hM : Con l Z EL y bytes maxL ret [] rm (.ref b :: as).toArray h Q) {ps : List FieldType} {r : Option FieldType} (hd0 : parseMethodDescriptor y.desc = some ⟨ps, r⟩) (hlen : as.length = ps.length)
    {g : JFrame} (hg : g.method = m) (hsize : g.locals.size = c.maxLocals) {rest : List Value} (hs : g.stack = as.reverse ++ .ref b :: rest) {W : Nat} (hW : 2 * g.monitorRoom + (rest.map fun v => v.category).sum ≤ W) (hd : decode c.code g.pc = .ok (.invokevirtual index, 3))
    (hf : rm.frames + 1 ≤ R.frames) (hl : W + (maxL + 11) + rm.locals ≤ R.locals) (hc : k + rm.cells ≤ R.cells) (hsl : n + rm.slots ≤ R.slots)
    (K : ∀ v vm' T' h', Sit p l e R s m args below meth c Z EL own vm' T' h' (k + rm.cells) (n + rm.slots) → CHr Z EL vm h vm' h' → Q v h' → G T' { g with pc := g.pc + 3, stack := v.toList ++ rest }) : G T g := by
  obtain ⟨locs, X, eT, hZ, hown, hS, C, N, O, hn⟩ := S
  obtain ⟨cB, kB, i1, -, i2⟩ := isOf (s := s.setVm vm) hZ eT E
  obtain ⟨v, vm1, ⟨U, L', k', n'⟩, -, X', h2, g2, ⟨L, ⟨hQ, hF⟩, q1, q2, q3, hC⟩, st⟩ := X.virtualBackS hx (y := y) (z := y) hown (mvT hZ wl) (mvT hZ wd) (notFace_of_selects (args := #[]) (mvT hZ wsl)) (mvT hZ wsl) (mvT hZ wim) hy (backOfSH (W := W) (Q := fun v h L => Q v h ∧ Fr Z.heap.size L) hM hZ wc wz hf hl hEL C.1) i1 i2 hg hsize (Steps.refl _) (argsL := as) (lenOf hd0 hlen) hs hW hd (fun _ _ => ⟨rfl, eT, hc, hsl⟩)
  dsimp only [Pt.U, Pt.locs, Pt.cells, Pt.slots] at X' h2 g2 hQ q1 q2 q3 hC st
  subst q1 q2 q3
  exact hG.st (fun t q => st.trans q) (K v U.vm U U.heap (afterS eT hZ hown hS C N O X' h2 g2 hF hC) hC hQ)
theorem Sit.callI (hG : Cl p e below G) (S : Sit p l e R s m args below meth c Z EL own vm T h k n) (hx : p.tables.exec = Jvm.exec) (hEL : EW Z a0 EL) {index : Nat} {y : MethodName} (hy1 : y.name = "<init>") {bytes : ByteArray} {maxL : Nat} {rm : Room} {as : List Value} {Q : Option Value → Heap → Prop}
    (wl : (Jvm.Cond.methodLink own index y).before a0 Z = true) (wim : (Jvm.Cond.instanceMethod y).before a0 Z = true) (wz : (Jvm.Cond.initialized y.cls).before a0 Z = true) (wc : (Jvm.Cond.code y bytes maxL none).before a0 Z = true) (hy : y.cls ≠ "java/lang/invoke/MethodHandle" ∧ y.cls ≠ "java/lang/invoke/VarHandle")
    (hM : Con l Z EL y bytes maxL none [] rm (.ref b :: as).toArray h Q) {ps : List FieldType} {r : Option FieldType} (hd0 : parseMethodDescriptor y.desc = some ⟨ps, r⟩) (hlen : as.length = ps.length)
    {g : JFrame} (hg : g.method = m) (hsize : g.locals.size = c.maxLocals) {rest : List Value} (hs : g.stack = as.reverse ++ .ref b :: rest) {W : Nat} (hW : 2 * g.monitorRoom + (rest.map fun v => v.category).sum ≤ W) (hd : decode c.code g.pc = .ok (.invokespecial index, 3))
    (hf : rm.frames + 1 ≤ R.frames) (hl : W + (maxL + 11) + rm.locals ≤ R.locals) (hc : k + rm.cells ≤ R.cells) (hsl : n + rm.slots ≤ R.slots)
    (K : ∀ v vm' T' h', Sit p l e R s m args below meth c Z EL own vm' T' h' (k + rm.cells) (n + rm.slots) → CHr Z EL vm h vm' h' → Q v h' → G T' { g with pc := g.pc + 3, stack := v.toList ++ rest }) : G T g := by
  obtain ⟨locs, X, eT, hZ, hown, hS, C, N, O, hn⟩ := S
  obtain ⟨v, vm1, ⟨U, L', k', n'⟩, -, X', h2, g2, ⟨L, ⟨hQ, hF⟩, q1, q2, q3, hC⟩, st⟩ := X.specialBackS hx (y := y) hy1 hown (mvT hZ wl) (mvT hZ wim) (mvT hZ wc) hy (backOfSH (W := W) (Q := fun v h L => Q v h ∧ Fr Z.heap.size L) hM hZ wc wz hf hl hEL C.1) hg hsize (Steps.refl _) (a := b) (argsL := as) (lenOf hd0 hlen) hs hW hd (fun _ _ => ⟨rfl, eT, hc, hsl⟩)
  dsimp only [Pt.U, Pt.locs, Pt.cells, Pt.slots] at X' h2 g2 hQ q1 q2 q3 hC st
  subst q1 q2 q3
  exact hG.st (fun t q => st.trans q) (K v U.vm U U.heap (afterS eT hZ hown hS C N O X' h2 g2 hF hC) hC hQ)
theorem Sit.retN {t : FieldType} {Q : Option Value → Heap → Prop} (hR : Rt p l e R s m args below meth c Z EL own Q G) (S : Sit p l e R s m args below meth c Z EL own vm T h k n) (hx : p.tables.exec = Jvm.exec) (hret : meth.sig.returnType = some t) (ht : t = .boolean ∨ t = .byte ∨ t = .char ∨ t = .short) {pc : Nat} {Ls : Array Slot} {z : Int32} {rest : List Value} (hd : decode c.code pc = .ok (.ireturn, 1)) (hk : k ≤ R.cells) (hn : n ≤ R.slots) (hQ : Q (some (.int (nar t z))) h) : G T (mkF m pc Ls (.int z :: rest)) :=
  hR vm T h k n _ _ S hk hn (fun q => by rw [hret] at q; cases q) hQ (fun fs hr => by obtain ⟨_, X, -⟩ := S; exact RoadKit.retN X hx hret ht hd hr)
theorem Sit.retO {t : FieldType} {i : Instr} {Q : Option Value → Heap → Prop} (hR : Rt p l e R s m args below meth c Z EL own Q G) (S : Sit p l e R s m args below meth c Z EL own vm T h k n) (hx : p.tables.exec = Jvm.exec) (hret : meth.sig.returnType = some t) {pc : Nat} {Ls : Array Slot} {w : Value} {rest : List Value} (hnw : narrow t w = w)
    (hi : (i = .ireturn ∧ (t = .int ∨ t = .boolean ∨ t = .byte ∨ t = .char ∨ t = .short) ∧ ∃ z, w = .int z) ∨ (i = .lreturn ∧ t = .long ∧ ∃ z, w = .long z) ∨ (i = .dreturn ∧ t = .double ∧ ∃ z, w = .double z) ∨ (i = .freturn ∧ t = .float ∧ ∃ z, w = .float z) ∨ (i = .areturn ∧ t.isReference = true ∧ w.isRef = true))
    (hd : decode c.code pc = .ok (i, 1)) (hk : k ≤ R.cells) (hn : n ≤ R.slots) (hQ : Q (some w) h) : G T (mkF m pc Ls (w :: rest)) :=
  hR vm T h k n _ _ S hk hn (fun q => by rw [hret] at q; cases q) hQ (fun fs hr => by obtain ⟨_, X, -⟩ := S; exact RoadKit.retOut X hx hret hnw hi hd hr)
theorem Sit.ret0 {Q : Option Value → Heap → Prop} (hR : Rt p l e R s m args below meth c Z EL own Q G) (S : Sit p l e R s m args below meth c Z EL own vm T h k n) (hx : p.tables.exec = Jvm.exec) (hret : meth.sig.returnType = none) {pc : Nat} {Ls : Array Slot} (hd : decode c.code pc = .ok (.return_, 1)) (hk : k ≤ R.cells) (hn : n ≤ R.slots) (hQ : Q none h) : G T (mkF m pc Ls []) :=
  hR vm T h k n _ _ S hk hn (fun q => rfl) hQ (fun fs hr => by obtain ⟨_, X, -⟩ := S; exact X.returnOut hx hret hd hr)
theorem Con.of {y : MethodName} {bytes : ByteArray} {maxL : Nat} {ret : Option FieldType} {cw : List Jvm.Cond} {rm : Room} {as : Array Value} {Q : Option Value → Heap → Prop} (hp : plainFor y = true) (hEL : EW Z a0 EL) (hO : Ext Z.heap h)
    (body : ∀ {p : Program} {e : Env} {s : State} {m : MethodId} {below : List Frame} {meth : Method} {c : Code} {T : State} {G : State → JFrame → Prop} {vm : Vm}, p.tables.exec = Jvm.exec → c.code = bytes → c.maxLocals = maxL → meth.sig.returnType = ret → meth.name = y.name → Cl p e below G → Rt p l e rm s m as below meth c Z EL y.cls Q G → Sit p l e rm s m as below meth c Z EL y.cls vm T h 0 0 → G T (entryFrame m as maxL)) :
    Con l Z EL y bytes maxL ret cw rm as h Q := by
  refine MetFree.of_bodySF hp hisR ?_
  intro p e s m args below meth c s₁ Bd hml0 hP hK
  obtain ⟨rfl, hZ, rfl, hC⟩ := hP
  have X0 : Stand p l e rm s m args below meth c s₁ [] 0 0 := Stand.of_body Bd
  have e0 : s₁.heap = s.heap := by rw [Bd.state]; rfl
  have hlk : meth.locks = false := Bd.notSynchronized
  have hX : Stand p l e rm (s.setVm s.vm) m args below meth c s₁ [] 0 0 := by rw [State.setVm_self]; exact X0
  refine body (G := fun T g => ∃ s₂ o, Steps p.tables e below (T.setTop g) s₂ ∧ s₂.status = .running ∧ Ended s₂ below o ∧ ∃ v L, o = .returned v ∧ (Q v s₂.heap ∧ Fr Z.heap.size L) ∧ CHr Z EL s.vm s.heap s₂.vm s₂.heap ∧ ReturnedEndW s o s₂ L rm.cells rm.slots) (vm := s.vm) Bd.exec Bd.bytes hml0 Bd.returns (name_of_methodNamed Bd.named Bd.method).1 (fun T T' g g' f ⟨s₂, o, st, r⟩ => ⟨s₂, o, f _ st, r⟩) ?_
    ⟨[], hX, e0, hZ, findClass_of_methodNamed Bd.named, ⟨_, (State.WarmedH.refl s).since _, Nat.le_refl _⟩, CHr.refl hC, Fr.nil _, hO, trivial⟩
  intro vm T h k n v g S hk hn hv hQ hst
  obtain ⟨locs, X, rfl, hZ', hown', ⟨j, hS, hj⟩, C0, N, O, hN⟩ := S
  obtain ⟨fs, hr, hrun, hended, hend⟩ := X.leaveW hS hj hv hlk
  exact ⟨_, _, hst fs hr, hrun, hended, v, locs, rfl, ⟨hQ, N⟩, C0.trans (show CHr Z EL vm T.heap T.vm T.heap from CHv.at X hZ' hEL C0.1), hend.1, hend.2.1, hend.2.2.1, hend.2.2.2.mono hk hn⟩
end L
end Jvm.Pilot.@@N@@.Own
namespace Jvm.Pilot.@@N@@.Own
open Jvm Jvm.ClassFile Sem Op Lib Jvm.Free Jvm.Stand Jvm.LawKit Jvm.RoadKit
section L2
variable {p : Program} {l : Launch} {e : Env} {R : Room} {s : State} {m : MethodId} {args : Array Value} {below : List Frame} {meth : Method} {c : Code} {Z : State} {EL : List (String × Nat)} {own : String} {a0 : Array Value} {vm vm' vm'' : Vm} {T T' : State} {h h' h'' : Heap} {k n : Nat} {G : State → JFrame → Prop} {ws ws' us : List Addr} {x a b t : Addr}
/-- COMPACT_STRINGS is on -/
def Cmp (Z : State) : Prop := ∃ z : Int32, Sta Z Z.heap ST "COMPACT_STRINGS" "Z" (.int z) ∧ ¬ z = 0
def Sio (Z : State) : Prop := ∃ fm : Value, Sta Z Z.heap "jdk/internal/util/Preconditions" "SIOOBE_FORMATTER" "Ljava/util/function/BiFunction;" fm ∧ fm.isRef = true
theorem up (cs : List Int32) (h : ∀ c ∈ cs, ¬ c < 0 ∧ ¬ (255 : Int32) < c) : ∀ c ∈ cs, ¬ c < 0 ∧ ¬ (65535 : Int32) < c := fun c hc => ⟨(h c hc).1, fun q => (h c hc).2 (by rw [Int32.lt_iff_toInt_lt] at q ⊢; have e1 : (65535 : Int32).toInt = 65535 := rfl; have e2 : (255 : Int32).toInt = 255 := rfl; omega)⟩
/-- a pure virtual call paid by a Back -/
theorem Sit.pureV (hG : Cl p e below G) (S : Sit p l e R s m args below meth c Z EL own vm T h k n) (hx : p.tables.exec = Jvm.exec) {C : String} {index : Nat} {y : MethodName} {as : List Value} {Q : Option Value → Prop}
    (wl : (Jvm.Cond.methodLink own index y).before a0 Z = true) (wd : (Jvm.Cond.declares y).before a0 Z = true) (wsl : (Jvm.Cond.selects C y y).before a0 Z = true) (wim : (Jvm.Cond.instanceMethod y).before a0 Z = true) (hy : y.cls ≠ "java/lang/invoke/MethodHandle" ∧ y.cls ≠ "java/lang/invoke/VarHandle")
    (E : Exa Z h b C) {W : Nat} (hK : Back l R p e below (s.setVm vm) args y 3 W (fun P a => a = (.ref b :: as).toArray ∧ P.U.heap = h ∧ P.cells + 0 ≤ R.cells ∧ P.slots + 0 ≤ R.slots) (fun P _ v B => ∃ L, (Q v ∧ L = [] ∧ B.U.heap = h) ∧ B.locs = P.locs ++ L ∧ B.cells = P.cells + 0 ∧ B.slots = P.slots + 0))
    {ps : List FieldType} {r : Option FieldType} (hd0 : parseMethodDescriptor y.desc = some ⟨ps, r⟩) (hlen : as.length = ps.length)
    {g : JFrame} (hg : g.method = m) (hsize : g.locals.size = c.maxLocals) {rest : List Value} (hs : g.stack = as.reverse ++ .ref b :: rest) (hW : 2 * g.monitorRoom + (rest.map fun v => v.category).sum ≤ W) (hd : decode c.code g.pc = .ok (.invokevirtual index, 3)) (hc : k ≤ R.cells) (hsl : n ≤ R.slots)
    (K : ∀ v T', Sit p l e R s m args below meth c Z EL own vm T' h k n → Q v → G T' { g with pc := g.pc + 3, stack := v.toList ++ rest }) : G T g := by
  obtain ⟨locs, X, eT, hZ, hown, hS, C, N, O, hn⟩ := S
  obtain ⟨cB, kB, i1, -, i2⟩ := isOf (s := s.setVm vm) hZ eT E
  obtain ⟨v, vm1, ⟨U, L', k', n'⟩, -, X', ⟨L, ⟨hq, hL, hU⟩, q1, q2, q3⟩, st⟩ := X.virtualBack hx (y := y) (z := y) hown (mvT hZ wl) (mvT hZ wd) (notFace_of_selects (args := #[]) (mvT hZ wsl)) (mvT hZ wsl) (mvT hZ wim) hy hK i1 i2 hg hsize (Steps.refl _) (argsL := as) (lenOf hd0 hlen) hs hW hd (fun _ _ => ⟨rfl, eT, hc, hsl⟩)
  dsimp only [Pt.U, Pt.locs, Pt.cells, Pt.slots] at X' hU q1 q2 q3 st
  subst q1 q2 q3 hL
  rw [List.append_nil] at X'
  exact hG.st (fun t q => st.trans q) (K v U ⟨locs, X', hU, hZ, hown, hS, C, N, O, hn⟩ hq)
section Nw
variable {args : Array Value} {u v : Term} {z : Int32} {vs : List Value} {dv : Value} {ty : FieldType} {cs : List Int32}
theorem eqI (h : (Jvm.Cond.eq u v).value args s none s [] = some true) (hb : v.eval args s none [] s = some (.int z)) : u.eval args s none [] s = some (.int z) := by
  obtain ⟨x, y, h1, h2, h3, h4⟩ := cmp_v (Or.inl h)
  cases h2.symm.trans hb
  obtain ⟨w, rfl⟩ := h4
  have := gotT (Cond.eq_ints h1 hb) h
  rw [h1, this]
theorem eqR (h : (Jvm.Cond.eq u v).value args s none s [] = some true) (hb : v.eval args s none [] s = some (.ref a)) : u.eval args s none [] s = some (.ref a) := by
  obtain ⟨x, y, h1, h2, h3, h4⟩ := cmp_v (Or.inl h)
  cases h2.symm.trans hb
  have := gotT (eq_R h1 hb h4.2 rfl) h
  rw [h1, this]
theorem eqR2 (h : (Jvm.Cond.eq u v).value args s none s [] = some true) (hb : u.eval args s none [] s = some (.ref a)) : v.eval args s none [] s = some (.ref a) := by
  obtain ⟨x, y, h1, h2, h3, h4⟩ := cmp_v (Or.inl h)
  cases h1.symm.trans hb
  have := gotT (eq_R hb h2 rfl h3.2) h
  rw [h2, ← this]
theorem arvOf (hf : Fit s) (ev : u.eval args s none [] s = some (.ref a)) (hA : (Jvm.Cond.arrayOf u ty).value args s none s [] = some true) (hl : (Jvm.Cond.eq (.length u) (.int z)).value args s none s [] = some true) (hz : ¬ z < 0) (hn : z.toNatClampNeg = vs.length)
    (hv : ∀ i (hi : i < vs.length), (Term.elem u (.int (Int32.ofNat i))).eval args s none [] s = some vs[i]) : ∃ kc, Arv s s.heap a kc ty z vs dv := by
  obtain ⟨cl, A⟩ := Arr.start ev hA
  have hlen := eqI hl (Term.int_eval z)
  have hat : s.arrayAt? a = some cl := A.fin ⟨rfl, rfl, fun _ k hk => ⟨k, hk, rfl⟩⟩
  have h31 := SBG.length_lt ev hat hlen
  have hs : cl.slots.size.toInt32 = z := by
    have := (len_f ev hat h31).symm.trans hlen
    simpa using this
  have hsz : cl.slots.size = z.toNatClampNeg := by
    rw [← hs]
    show _ = (Int32.ofNat cl.slots.size).toNatClampNeg
    simp [Int32.toNatClampNeg, Int32.toInt_ofNat_small h31]
  have hel : ∀ i, i < cl.slots.size → cl.slots[i]? = some (vs.getD i dv) := fun i hi => by
    have hi' : i < vs.length := by omega
    have q := elem_in (hv i hi') ev (Term.int_eval _) A.1
    have e : (Int32.ofNat i).toNatClampNeg = i := by simp [Int32.toNatClampNeg, Int32.toInt_ofNat_small (show i < 2 ^ 31 by omega)]
    rw [e] at q
    rw [q.2]; simp [hi']
  refine ⟨cl.cls, cl, A, rfl, hsz, hz, hel, fun i hi => ?_⟩
  have e : (Int32.ofNat i).toNatClampNeg = i := by simp [Int32.toNatClampNeg, Int32.toInt_ofNat_small (show i < 2 ^ 31 by omega)]
  have hnn : ¬ (Int32.ofNat i < 0 ∨ cl.slots.size ≤ (Int32.ofNat i).toNatClampNeg) := by
    rw [e, Int32.lt_iff_toInt_lt, Int32.toInt_ofNat_small (show i < 2 ^ 31 by omega)]
    have : (0 : Int32).toInt = 0 := rfl
    omega
  obtain ⟨w, hw1, hw2⟩ := elem_fit hf A hnn
  rw [e, hel i hi] at hw1
  cases hw1
  exact hw2
theorem strOf (hf : Fit s) (ev : u.eval args s none [] s = some (.ref x)) (E : Exa s s.heap x ST) (hc : (Term.field u ST "coder" "B").eval args s none [] s = some (.int 0)) (hv : (Term.field u ST "value" "[B").eval args s none [] s = some (.ref t))
    (hA : (Jvm.Cond.arrayOf (.field u ST "value" "[B") .byte).value args s none s [] = some true) (hl : (Jvm.Cond.eq (.length (.field u ST "value" "[B")) (.int (Int32.ofNat cs.length))).value args s none s [] = some true) (hr : ∀ c ∈ cs, ¬ c < 0 ∧ ¬ (255 : Int32) < c) (hn : cs.length ≤ 4000) (hz : (Int32.ofNat cs.length).toNatClampNeg = cs.length)
    (he : ∀ i (hi : i < cs.length), (Term.elem (.field u ST "value" "[B") (.int (Int32.ofNat i))).eval args s none [] s = some (.int (cs[i]).toInt8.toInt32)) : Str s s.heap x t cs := by
  have hz0 : ¬ Int32.ofNat cs.length < 0 := by
    rw [Int32.lt_iff_toInt_lt, Int32.toInt_ofNat_small (by omega)]
    exact Int.not_lt.mpr (Int.natCast_nonneg _)
  obtain ⟨kc, A⟩ := arvOf (dv := .int 0) (vs := (cs.map fun c => c.toInt8.toInt32).map Value.int) hf hv hA hl hz0 (by rw [hz]; simp) (fun i hi => by
    have hi' : i < cs.length := by simpa using hi
    rw [he i hi']; simp)
  exact ⟨kc, E, Fld.start ((fld_at ev).symm.trans hv), Fld.start ((fld_at ev).symm.trans hc), A, hr, hn⟩
end Nw
theorem Sit.strLen (hG : Cl p e below G) (S : Sit p l e R s m args below meth c Z EL own vm T h k n) (hx : p.tables.exec = Jvm.exec) (hws : ∀ d ∈ StrChars.Road.wordsLen, d.before a0 Z = true) (hcs : Cmp Z) (wi : (Jvm.Cond.instantiable ST 4).before a0 Z = true) {index : Nat}
    (wl : (Jvm.Cond.methodLink own index ⟨"java/lang/String", "length", "()I"⟩).before a0 Z = true) (wd : (Jvm.Cond.declares ⟨"java/lang/String", "length", "()I"⟩).before a0 Z = true) (wsl : (Jvm.Cond.selects ST ⟨"java/lang/String", "length", "()I"⟩ ⟨"java/lang/String", "length", "()I"⟩).before a0 Z = true) (wim : (Jvm.Cond.instanceMethod ⟨"java/lang/String", "length", "()I"⟩).before a0 Z = true)
    {cs : List Int32} (F : Str Z h b t cs) {g : JFrame} (hg : g.method = m) (hsize : g.locals.size = c.maxLocals) {rest : List Value} (hs : g.stack = .ref b :: rest) {W : Nat} (hW : 2 * g.monitorRoom + (rest.map fun v => v.category).sum ≤ W) (hd : decode c.code g.pc = .ok (.invokevirtual index, 3)) (hf : 2 ≤ R.frames) (hl : W + 25 ≤ R.locals) (hc : k ≤ R.cells) (hsl : n ≤ R.slots)
    (K : ∀ T', Sit p l e R s m args below meth c Z EL own vm T' h k n → G T' { g with pc := g.pc + 3, stack := .int (Int32.ofNat cs.length) :: rest }) : G T g := by
  obtain ⟨z, hz1, hz2⟩ := hcs
  obtain ⟨kb, q1, q2, q3, q4, q5, q6⟩ := F
  have hcd := StrChars.Road.codOf (cs := cs) (n := cs.length) rfl (fun c hc => (q5 c hc).2)
  refine S.pureV hG hx (Q := fun v => v = some (.int (Int32.ofNat cs.length))) wl wd wsl wim (by decide) q1 (as := []) (W := W) (StrChars.Road.lenW (W := W) S.warm hws wi q1 q2 q3 q4 hcd (up _ q5) (hz1.ext S.old) hz2 q6 hf hl) (ps := []) (r := some .int) (by decide +kernel) rfl hg hsize (rest := rest) hs hW hd hc hsl ?_
  rintro v T' S' rfl
  exact K T' S'
theorem Sit.newStr (hG : Cl p e below G) (S : Sit p l e R s m args below meth c Z EL own vm T h k n) (hx : p.tables.exec = Jvm.exec) (hws : ∀ d ∈ StrChars.Road.words, d.before a0 Z = true) (hcs : Cmp Z) (wi : (Jvm.Cond.instantiable ST 4).before a0 Z = true) {index : Nat}
    (wl : (Jvm.Cond.methodLink own index ⟨"java/lang/String", "<init>", "([C)V"⟩).before a0 Z = true) (wim : (Jvm.Cond.instanceMethod ⟨"java/lang/String", "<init>", "([C)V"⟩).before a0 Z = true)
    {cs : List Int32} {kC : ClassId} {d v0 c0 : Value} {zn : Int32} (gx : Z.heap.size ≤ x) (sf : Safe Z EL vm h x) (E : Exa Z h x ST) (V : Fld Z h x ST "value" "[B" v0) (C : Fld Z h x ST "coder" "B" c0) (A : Arv Z h b kC .char zn (cs.map Value.int) d) (hN : zn = Int32.ofNat cs.length) (l0 : 0 < cs.length) (l2 : cs.length ≤ 4000) (hp : ∀ c ∈ cs, ¬ c < 0 ∧ ¬ (255 : Int32) < c)
    {nn : Nat} (hnn : cs.length ≤ nn) {g : JFrame} (hg : g.method = m) (hsize : g.locals.size = c.maxLocals) {rest : List Value} (hs : g.stack = .ref b :: .ref x :: rest) {W : Nat} (hW : 2 * g.monitorRoom + (rest.map fun v => v.category).sum ≤ W) (hd : decode c.code g.pc = .ok (.invokespecial index, 3)) (hf : 4 ≤ R.frames) (hl : W + 65 ≤ R.locals) (hc : k + 1 ≤ R.cells) (hsl : n + nn ≤ R.slots)
    (K : ∀ T' h' t, Sit p l e R s m args below meth c Z EL own vm T' h' (k + 1) (n + nn) → Stp Z EL vm h vm h' [x] → h.size ≤ t → Str Z h' x t cs → G T' { g with pc := g.pc + 3, stack := rest }) : G T g := by
  obtain ⟨z, hz1, hz2⟩ := hcs
  have ho := S.old
  obtain ⟨locs, X, eT, hZ, hown, ⟨j, hS, hj⟩, C0, N, O, hn⟩ := S
  obtain ⟨v, vm1, ⟨U, L', k', n'⟩, -, X', ⟨L, hQ, q1, q2, q3⟩, st⟩ := X.specialBack hx (y := (⟨"java/lang/String", "<init>", "([C)V"⟩ : MethodName)) rfl hown (mvT hZ wl) (mvT hZ wim) (mvT hZ (hws _ List.mem_cons_self)) (by decide) (StrChars.Road.backV (W := W) (bs := cs.map (fun c => c.toInt8.toInt32)) (n := cs.length) (n0 := Z.heap.size) hZ hws wi gx ho.1 E V C A (hz1.ext ho) hz2 rfl hN l0 l2 hp rfl hf hl) hg hsize (Steps.refl _) (a := x) (argsL := [.ref b]) (rest := rest) (lenOf (ps := [.array .char]) (r := none) (by decide +kernel) rfl) hs hW hd (fun _ _ => ⟨rfl, eT, hc, Nat.le_trans (Nat.add_le_add_left hnn _) hsl⟩)
  dsimp only [Pt.U, Pt.locs, Pt.cells, Pt.slots] at X' hQ q1 q2 q3 st
  subst q1 q2 q3
  obtain ⟨rfl, N', K', E', C', t, kb, t1, t2, t3, V', A'⟩ := hQ
  have J : Stp Z EL vm h vm U.heap [x] := Stp.of_keep K' (allS sf all0) C0.1
  subst hN
  refine hG.st (fun t q => st.trans q) (K U U.heap t ⟨_, { X' with same := X'.same.mono (Nat.le_refl _) (Nat.add_le_add_left hnn _) }, rfl, hZ, hown, ⟨j, hS, Nat.le_trans hj K'.1⟩, C0.trans J.2, N.app N', O, hn⟩ J t2 ⟨kb, E', V', C', A', hp, l2⟩)
end L2
end Jvm.Pilot.@@N@@.Own

namespace Jvm.Pilot.@@N@@.Own
open Jvm Jvm.ClassFile Sem Op Lib Jvm.Free Jvm.Stand Jvm.LawKit Jvm.RoadKit
section L3
variable {p : Program} {l : Launch} {e : Env} {R : Room} {s : State} {m : MethodId} {args : Array Value} {below : List Frame} {meth : Method} {c : Code} {Z : State} {EL : List (String × Nat)} {own : String} {a0 : Array Value} {vm vm' vm'' : Vm} {T T' : State} {h h' h'' : Heap} {k n : Nat} {G : State → JFrame → Prop} {ws ws' us : List Addr} {x a b t : Addr}
theorem Sit.ldc2 (hG : Cl p e below G) (S : Sit p l e R s m args below meth c Z EL own vm T h k n) (hx : p.tables.exec = Jvm.exec) {index : Nat} {z : Int64} (w : (Jvm.Cond.constantLong own index z).before a0 Z = true) {g : JFrame} (hg : g.method = m) (hd : decode c.code g.pc = .ok (.ldc2_w index, 3)) (q : G T { g with pc := g.pc + 3, stack := .long z :: g.stack }) : G T g := by
  obtain ⟨_, X, _, hZ, hown, -⟩ := S
  exact hG.st (fun t r => X.ldc2Long hx hown (mvT hZ w) hg hd t r) q
theorem Sit.callP (hG : Cl p e below G) (S : Sit p l e R s m args below meth c Z EL own vm T h k n) (hx : p.tables.exec = Jvm.exec) (hEL : EW Z a0 EL) {C : String} {index : Nat} {y : MethodName} {bytes : ByteArray} {maxL : Nat} {ret : Option FieldType} {rm : Room} {as : List Value} {Q : Option Value → Heap → Prop}
    (wl : (Jvm.Cond.methodLink own index y).before a0 Z = true) (wpr : (Jvm.Cond.privateMethod y).before a0 Z = true) {nI : Nat} (wi : (Jvm.Cond.instantiable y.cls nI).before a0 Z = true) (wim : (Jvm.Cond.instanceMethod y).before a0 Z = true) (wz : (Jvm.Cond.initialized y.cls).before a0 Z = true) (wc : (Jvm.Cond.code y bytes maxL ret).before a0 Z = true) (hy : y.cls ≠ "java/lang/invoke/MethodHandle" ∧ y.cls ≠ "java/lang/invoke/VarHandle")
    (E : Exa Z h b C) (hM : Con l Z EL y bytes maxL ret [] rm (.ref b :: as).toArray h Q) {ps : List FieldType} {r : Option FieldType} (hd0 : parseMethodDescriptor y.desc = some ⟨ps, r⟩) (hlen : as.length = ps.length)
    {g : JFrame} (hg : g.method = m) (hsize : g.locals.size = c.maxLocals) {rest : List Value} (hs : g.stack = as.reverse ++ .ref b :: rest) {W : Nat} (hW : 2 * g.monitorRoom + (rest.map fun v => v.category).sum ≤ W) (hd : decode c.code g.pc = .ok (.invokevirtual index, 3))
    (hf : rm.frames + 1 ≤ R.frames) (hl : W + (maxL + 11) + rm.locals ≤ R.locals) (hc : k + rm.cells ≤ R.cells) (hsl : n + rm.slots ≤ R.slots)
    (K : ∀ v vm' T' h', Sit p l e R s m args below meth c Z EL own vm' T' h' (k + rm.cells) (n + rm.slots) → CHr Z EL vm h vm' h' → Q v h' → G T' { g with pc := g.pc + 3, stack := v.toList ++ rest }) : G T g := by
  obtain ⟨locs, X, eT, hZ, hown, hS, C, N, O, hn⟩ := S
  obtain ⟨cq, i1, i2⟩ := E.cell
  have hpv : (s.setVm vm).PrivateAt y := Cond.privateMethod_at (mvP (s := s.setVm vm) hZ wpr (args := #[]))
  have wsl : (Jvm.Cond.selects y.cls y y).before args (s.setVm vm) = true := by
    obtain ⟨cI, kI, g1, g2, g3, g4, -⟩ := Cond.instantiable_spec (mv (s := s.setVm vm) (args := args) hZ wi)
    exact selects_self_of_private g1 g2 (by simp only [Bool.or_eq_false_iff] at g4; exact g4.1) hpv (mvT hZ wim) hy
  obtain ⟨v, vm1, ⟨U, L', k', n'⟩, -, X', h2, g2, ⟨L, ⟨hQ, hF⟩, q1, q2, q3, hC⟩, st⟩ := X.privateBackS hx (y := y) hown (mvT hZ wl) (mvT hZ wim) wsl hpv (mvT hZ wc) hy (backOfSH (W := W) (Q := fun v h L => Q v h ∧ Fr Z.heap.size L) hM hZ wc wz hf hl hEL C.1) hg hsize (Steps.refl _) (a := b) (by rw [eT]; exact i1) i2 (argsL := as) (lenOf hd0 hlen) hs hW hd (fun _ _ => ⟨rfl, eT, hc, hsl⟩)
  dsimp only [Pt.U, Pt.locs, Pt.cells, Pt.slots] at X' h2 g2 hQ q1 q2 q3 hC st
  subst q1 q2 q3
  exact hG.st (fun t q => st.trans q) (K v U.vm U U.heap (afterS eT hZ hown hS C N O X' h2 g2 hF hC) hC hQ)
theorem Sit.stI (hG : Cl p e below G) (S : Sit p l e R s m args below meth c Z EL own vm T h k n) (hx : p.tables.exec = Jvm.exec) {kc : ClassId} {z : Int32} {vs : List Value} {d : Value} (V : Arv Z h a kc .int z vs d) (ga : Z.heap.size ≤ a) {j y : Int32} (hj : ¬ j < 0 ∧ j < z) (i : Nat) (hi : j.toNatClampNeg = i) (hil : i < vs.length)
    {g : JFrame} (hg : g.method = m) {rest : List Value} (hs : g.stack = .int y :: .int j :: .ref a :: rest) (hd : decode c.code g.pc = .ok (.iastore, 1)) (K : ∀ T' h', Sit p l e R s m args below meth c Z EL own vm T' h' k n → Stp Z EL vm h vm h' [a] → Arv Z h' a kc .int z (vs.set i (.int y)) d → G T' { g with pc := g.pc + 1, stack := rest }) : G T g := by
  obtain ⟨locs, X, eT, hZ, hown, ⟨jj, hS, hjj⟩, C0, N, r⟩ := S
  obtain ⟨cl, A, q1, q2, q3, q4, q5⟩ := V
  obtain ⟨T', h', X', e', W, st⟩ := RoadKit.stI X hx hZ eT A (inb_of q2 hj) hg hs hd
  have J := Stp.of_wr W (Safe.arr hZ.alike A (by decide)) C0.1
  exact hG.st st (K T' h' ⟨_, X', e', hZ, hown, ⟨jj, hS, Nat.le_trans hjj J.1.1⟩, C0.trans J.2, fr_one N ga, r⟩ J (Arv.set A q1 q2 q3 q4 q5 rfl W i hi hil))
theorem Sit.iaload (hG : Cl p e below G) (S : Sit p l e R s m args below meth c Z EL own vm T h k n) (hx : p.tables.exec = Jvm.exec) {kc : ClassId} {z : Int32} {vs : List Value} {d : Value} (V : Arv Z h a kc .int z vs d) {j : Int32} (hj : ¬ j < 0 ∧ j < z) {v : Value} (hv : vs.getD j.toNatClampNeg d = v)
    {g : JFrame} (hg : g.method = m) {rest : List Value} (hs : g.stack = .int j :: .ref a :: rest) (hd : decode c.code g.pc = .ok (.iaload, 1)) (q : G T { g with pc := g.pc + 1, stack := v :: rest }) : G T g := by
  obtain ⟨locs, X, eT, hZ, hown, r⟩ := S
  obtain ⟨cl, A, q1, q2, q3, q4, q5⟩ := V
  exact hG.st (fun t q => X.iaload hx (by rw [eT]; exact A.1) (State.isArrayOf_alike hZ.alike A.2.1) A.2.2 (inb_of q2 hj) (q4.at (inb_of q2 hj) hv) hg hs hd t q) q
theorem Sit.newR (hG : Cl p e below G) (S : Sit p l e R s m args below meth c Z EL own vm T h k n) (hx : p.tables.exec = Jvm.exec) {C : String} {index : Nat} (w1 : (Jvm.Cond.classLink own index C).before a0 Z = true) (w2 : (Jvm.Cond.arrayOver (.object C)).before a0 Z = true) {g : JFrame} (hg : g.method = m) (hd : decode c.code g.pc = .ok (.anewarray index, 3)) {z : Int32} {rest : List Value} (hs : g.stack = .int z :: rest)
    (hz : ¬ z < 0) {cap : Nat} (hcap : z.toNatClampNeg ≤ cap) (hb : cap * 8 ≤ 536870912) (hc : k + 1 ≤ R.cells) (hl : n + cap ≤ R.slots)
    (K : ∀ T' h' x cA, x = h.size → Sit p l e R s m args below meth c Z EL own vm T' h' (k + 1) (n + cap) → Stp Z EL vm h vm h' [] → Arv Z h' x cA (.object C) z [] .null → Ovr Z cA C → G T' { g with pc := g.pc + 3, stack := .ref x :: rest }) : G T g := by
  obtain ⟨locs, X, eT, hZ, hown, ⟨j, hS, hj⟩, C0, r⟩ := S
  obtain ⟨T', h', cA, X', e', E, A, O, st⟩ := RoadKit.newR X hx hZ hown w1 w2 eT hg hd hs hz hcap hb hc hl
  exact hG.st st (K T' h' _ cA rfl ⟨locs, X', e', hZ, hown, ⟨j, hS, Nat.le_trans hj E.1⟩, C0.trans (CHr.ext E C0.1), r⟩ (Stp.of_ext E C0.1) (Arv.new A hz) O)
theorem Sit.stR (hG : Cl p e below G) (S : Sit p l e R s m args below meth c Z EL own vm T h k n) (hx : p.tables.exec = Jvm.exec) {kc : ClassId} {C : String} {z : Int32} {vs : List Value} {d v : Value} (V : Arv Z h a kc (.object C) z vs d) (ga : Z.heap.size ≤ a) (F : Sto Z h a v) (hv : v.isRef = true) {j : Int32} (hj : ¬ j < 0 ∧ j < z) (i : Nat) (hi : j.toNatClampNeg = i) (hil : i < vs.length)
    {g : JFrame} (hg : g.method = m) {rest : List Value} (hs : g.stack = v :: .int j :: .ref a :: rest) (hd : decode c.code g.pc = .ok (.aastore, 1)) (K : ∀ T' h', Sit p l e R s m args below meth c Z EL own vm T' h' k n → Stp Z EL vm h vm h' [a] → Arv Z h' a kc (.object C) z (vs.set i v) d → G T' { g with pc := g.pc + 1, stack := rest }) : G T g := by
  obtain ⟨locs, X, eT, hZ, hown, ⟨jj, hS, hjj⟩, C0, N, r⟩ := S
  obtain ⟨cl, A, q1, q2, q3, q4, q5⟩ := V
  obtain ⟨T', h', X', e', W, st⟩ := RoadKit.stR X hx hZ eT A (inb_of q2 hj) rfl F hg hs hd
  have J := Stp.of_wr W (Safe.arr hZ.alike A (by simp)) C0.1
  exact hG.st st (K T' h' ⟨_, X', e', hZ, hown, ⟨jj, hS, Nat.le_trans hjj J.1.1⟩, C0.trans J.2, fr_one N ga, r⟩ J (Arv.set A q1 q2 q3 q4 q5 (by rcases ref_cases hv with rfl | ⟨_, rfl⟩ <;> rfl) W i hi hil))
theorem Sit.cpA (hG : Cl p e below G) (S : Sit p l e R s m args below meth c Z EL own vm T h k n) (hx : p.tables.exec = Jvm.exec) {index : Nat}
    (w1 : (Jvm.Cond.methodLink own index Jvm.Stand.acN).before a0 Z = true) (w2 : (Jvm.Cond.native Jvm.Stand.acN).before a0 Z = true) (w3 : (Jvm.Cond.static Jvm.Stand.acN).before a0 Z = true) (w4 : (Jvm.Cond.initialized "java/lang/System").before a0 Z = true)
    {k1 k2 : ClassId} {ty : FieldType} {z1 z2 sp dp nn : Int32} {vs vd us : List Value} {dv dd : Value} (A : Arv Z h a k1 ty z1 vs dv) (B : Arv Z h b k2 ty z2 vd dd) (hty : refKind ty = false)
    (h1 : ¬ sp < 0) (h2 : ¬ dp < 0) (h3 : ¬ nn < 0) (h4 : sp.toNatClampNeg + nn.toNatClampNeg ≤ z1.toNatClampNeg) (h5 : dp.toNatClampNeg + nn.toNatClampNeg ≤ z2.toNatClampNeg) (hus : us = (List.range nn.toNatClampNeg).map fun i => vs.getD (sp.toNatClampNeg + i) dv) (hl : dp.toNatClampNeg + nn.toNatClampNeg ≤ vd.length) (ge : Z.heap.size ≤ b) (sf : Safe Z EL vm h b)
    {g : JFrame} (hg : g.method = m) (hsize : g.locals.size = c.maxLocals) {rest : List Value} (hs : g.stack = .int nn :: .int dp :: .ref b :: .int sp :: .ref a :: rest) (hd : decode c.code g.pc = .ok (.invokestatic index, 3)) (hf : 1 ≤ R.frames) {W : Nat} (hW : 2 * g.monitorRoom + (rest.map fun v => v.category).sum ≤ W) (hlo : W + (nativeFrameWords "java/lang/System" "arraycopy" 5 + 11) ≤ R.locals)
    (K : ∀ T' h', Sit p l e R s m args below meth c Z EL own vm T' h' k n → Stp Z EL vm h vm h' [b] → Arv Z h' b k2 ty z2 (vd.take dp.toNatClampNeg ++ us ++ vd.drop (dp.toNatClampNeg + nn.toNatClampNeg)) dd → G T' { g with pc := g.pc + 3, stack := rest }) : G T g := by
  obtain ⟨locs, X, eT, hZ, hown, ⟨jj, hS, hjj⟩, C0, N, r⟩ := S
  obtain ⟨T', h', L, X', e', N', K', V', st⟩ := RoadKit.cpA X hx hZ hown w1 w2 w3 w4 eT A B (Or.inl ⟨rfl, hty⟩) h1 h2 h3 h4 h5 hus hl N ge hg hsize hs hd hf hW hlo
  have J : Stp Z EL vm h vm h' [b] := Stp.of_keep K' (allS sf all0) C0.1
  exact hG.st st (K T' h' ⟨_, X', e', hZ, hown, ⟨jj, hS, Nat.le_trans hjj K'.1⟩, C0.trans J.2, N', r⟩ J V')
/-- a byte array whose length is no literal's isn't booked -/
theorem Safe.size {kc : ClassId} {z : Int32} {vs : List Value} {d : Value} {nI : Nat} (hZ : Z.Warmed39 vm) (A : Arv Z h x kc .byte z vs d) (wi : (Jvm.Cond.instantiable ST nI).before a0 Z = true) (hEL : ∀ p ∈ EL, ∃ text : String, (Jvm.Cond.stringLink p.1 p.2 text).before a0 Z = true ∧ (∀ c ∈ text.toList, c.toNat < 256) ∧ text.toList.length ≠ z.toNatClampNeg) : Safe Z EL vm h x := fun B => by
  obtain ⟨p, hp, u, a, hb, q, hqa, hS, hy⟩ := B
  have hal := hZ.alike
  obtain ⟨cS, ⟨⟨s1, s2, s3, ⟨cv, kv, iv, s4, s4'⟩, ⟨cc, kc', ic, s5, s5'⟩, s6, s7, s8, s9, s10, s11, s12, s13, s14, s15, s16⟩, hfS, hcS⟩, ⟨kS, k1, k2, k3⟩, hB, hbyt⟩ := hS
  obtain ⟨cl, Aa, r1, r2, r3, -⟩ := A
  rcases hy with rfl | rfl
  · obtain ⟨f1, ⟨-, kA, hkA, comp, hkind⟩, -⟩ := Aa
    cases f1.symm.trans (show h[q.sa]? = some q.sC from s1)
    obtain ⟨k', hk', ek'⟩ := hal.2.2 _ _ hkA
    have : k' = kS := Option.some.inj (hk'.symm.trans (show vm.classes[q.sC.cls]? = some kS from hcS ▸ k1))
    rw [← this, ek'] at k2
    rw [hkind] at k2; cases k2
  · cases Aa.1.symm.trans (show h[q.sd]? = some q.SA from s10)
    obtain ⟨text, wl, ht, hne⟩ := hEL p hp
    obtain ⟨c, k, cf, i, b1, b2, b3, b4, b5, -⟩ := hb
    have hcZ : Z.vm.findClass p.1 = some c := by rw [← hal.findClass]; exact b1
    obtain ⟨k0, cf0, i0, units0, g1, g2, g3, g4, -, g5, -⟩ := Cond.stringLink_spec hcZ wl
    obtain ⟨k', hk', ek'⟩ := hal.2.2 _ _ g1
    cases hk'.symm.trans b2
    rw [ek'] at b3
    cases g2.symm.trans b3
    cases g3.symm.trans b4
    cases g4.symm.trans b5
    refine hne ?_
    have hl := Jvm.ClassFile.lat_of_text g5 ht
    have e1 : q.SA.slots.size = u.size := by rw [hbyt, SBG.stringBytes_lat hl, Array.size_map]
    have e2 := congrArg List.length (Jvm.ClassFile.units_of_text g5 ht)
    simp at e2
    rw [← r2, e1, e2]
theorem Sit.pushR (hG : Cl p e below G) (S : Sit p l e R s m args below meth c Z EL own vm T h k n) (hx : p.tables.exec = Jvm.exec) {kc : ClassId} {C : String} {z : Int32} {vs : List Value} {v : Value} (V : Arv Z h a kc (.object C) z vs .null) (ga : Z.heap.size ≤ a) (F : Sto Z h a v) (hv : v.isRef = true) {j : Int32} (hj : ¬ j < 0 ∧ j < z) (hi : j.toNatClampNeg = vs.length)
    {g : JFrame} (hg : g.method = m) {rest : List Value} (hs : g.stack = v :: .int j :: .ref a :: rest) (hd : decode c.code g.pc = .ok (.aastore, 1)) (K : ∀ T' h', Sit p l e R s m args below meth c Z EL own vm T' h' k n → Stp Z EL vm h vm h' [a] → Arv Z h' a kc (.object C) z (vs ++ [v]) .null → G T' { g with pc := g.pc + 1, stack := rest }) : G T g := by
  have V2 : Arv Z h a kc (.object C) z (vs ++ [.null]) .null := V.pad (pad_rep vs .null 1)
  refine S.stR hG hx V2 ga F hv hj vs.length hi (by simp) hg hs hd (fun T' h' S' J V' => K T' h' S' J ?_)
  simpa using V'
end L3
end Jvm.Pilot.@@N@@.Own

namespace Jvm.Pilot.@@N@@
open Jvm Jvm.ClassFile Sem Op Lib Jvm.Free Jvm.Stand Jvm.LawKit Jvm.RoadKit Bundle Jvm.Pilot.@@N@@.Jvm.D
def own_Wld (Z : State) (a0 : Array Value) : Prop := (∀ d ∈ tables_1, d.before a0 Z = true) ∧ Own.Cmp Z ∧ Own.Sio Z ∧ EW Z a0 consts_1
set_option maxRecDepth 65536 in
theorem own_wbackV : ∀ d ∈ StrChars.Road.words, d ∈ tables_1 := by decide +kernel
set_option maxRecDepth 65536 in
theorem own_wlenW : ∀ d ∈ StrChars.Road.wordsLen, d ∈ tables_1 := by decide +kernel
set_option maxRecDepth 65536 in
theorem own_wSA : ∀ d ∈ Bundle.stringAtoms, d ∈ tables_1 := by decide +kernel
theorem own_a255 (x : Int32) : ¬ ((x &&& (255 : Int32)).toUInt32.toUInt16.toUInt32.toInt32) < 0 ∧ ¬ (255 : Int32) < ((x &&& (255 : Int32)).toUInt32.toUInt16.toUInt32.toInt32) := by
  have h := Own.and255 x
  have e : nar .char ((x &&& (255 : Int32)).toUInt32.toUInt16.toUInt32.toInt32) = (x &&& (255 : Int32)).toUInt32.toUInt16.toUInt32.toInt32 := by
    rw [i2c_mask]; exact i2c_mask x
  rwa [e] at h
theorem own_lc {x y : Int64} (h : x = y) : lcmpW x y = 0 := by subst h; simp [lcmpW]
theorem own_and7 (x : Int32) : ¬ (x &&& (7 : Int32)) < 0 ∧ (x &&& (7 : Int32)) < 8 := by
  have h := c_and x 7 (by decide)
  have e0 : (0 : Int32).toInt = 0 := rfl
  have e7 : (7 : Int32).toInt = 7 := rfl
  have e8 : (8 : Int32).toInt = 8 := rfl
  simp only [Int32.lt_iff_toInt_lt, e0, e8]
  rw [e7] at h
  omega
theorem own_bc {n : Int32} (h : ¬ n < 0 ∧ n < 8) : ¬ ((0 : Int32) + n) < 0 ∧ ((0 : Int32) + n) < 4000 := by
  have e0 : (0 : Int32).toInt = 0 := rfl
  have e8 : (8 : Int32).toInt = 8 := rfl
  have e4 : (4000 : Int32).toInt = 4000 := rfl
  have a1 := c_iadd 0 n
  have b1 := rng32 (0 + n)
  simp only [Int32.lt_iff_toInt_lt, e0, e8, e4] at h ⊢
  omega
theorem own_add (c l6 : Int32) (h6 : ¬ l6 < 0 ∧ l6 < 8) (hc : ¬ c < 0 ∧ c < 8) : (c + ((0 : Int32) + l6)).toInt64 = c.toInt64 + l6.toInt64 := by
  have e0 : (0 : Int32).toInt = 0 := rfl
  have e8 : (8 : Int32).toInt = 8 := rfl
  simp only [Int32.lt_iff_toInt_lt, e0, e8] at h6 hc
  apply Int64.toInt_inj.mp
  have a1 := c_iadd 0 l6
  have a2 := c_iadd c (0 + l6)
  have a4 := c_ladd c.toInt64 l6.toInt64
  have b1 := rng32 (0 + l6)
  have b2 := rng32 (c + (0 + l6))
  have b4 := rng64 (c.toInt64 + l6.toInt64)
  simp only [Int32.toInt_toInt64] at *
  omega
theorem own_bk (l6 : Int32) : (l6.toInt64 - (0 : Int64)).toInt32 = (0 : Int32) + l6 := by
  have e1 : l6.toInt64 - (0 : Int64) = l6.toInt64 := by grind
  have e2 : (0 : Int32) + l6 = l6 := by grind
  rw [e1, e2]; simp
def own_sl (z : Int32) : Int32 := if (z &&& (4 : Int32)) = 0 then z &&& 3 else 0
theorem own_sl_n {z : Int32} (h : ¬ (z &&& (4 : Int32)) = 0) : own_sl z = 0 := if_neg h
theorem own_sl_y {z c : Int32} (h : (z &&& (4 : Int32)) = 0) (q : (z &&& (3 : Int32)) = c) : own_sl z = c := (if_pos h).trans q
theorem own_three {k z : Int32} (e : k = z &&& (3 : Int32)) (h0 : ¬ k = 0) (h1 : ¬ k = 1) (h2 : ¬ k = 2) : k = 3 := by
  have h := c_and z 3 (by decide)
  have e0 : (0 : Int32).toInt = 0 := rfl
  have e1 : (1 : Int32).toInt = 1 := rfl
  have e2 : (2 : Int32).toInt = 2 := rfl
  have e3 : (3 : Int32).toInt = 3 := rfl
  rw [← e, e3] at h
  rw [← Int32.toInt_inj, e0] at h0
  rw [← Int32.toInt_inj, e1] at h1
  rw [← Int32.toInt_inj, e2] at h2
  apply Int32.toInt_inj.mp
  rw [e3]; omega
theorem own_nb (c : Int32) : nar .byte (c.toInt8.toInt32) = c.toInt8.toInt32 := by show c.toInt8.toInt32.toInt8.toInt32 = _; simp
theorem own_pnb7c2a2 : plainFor (⟨"java/lang/StringLatin1", "canEncode", "(C)Z"⟩ : MethodName) = true := by first | exact plainFor_of_name (by first | (simp [plainName, overriddenIn]; done) | decide +kernel) | decide +kernel
theorem own_d0_0 : decode jdk_43_method_3_code 0 = .ok (.iload_n 0, 1) := by decide +kernel
theorem own_d0_1 : decode jdk_43_method_3_code 1 = .ok (.sipush 255, 3) := by decide +kernel
theorem own_d0_4 : decode jdk_43_method_3_code 4 = .ok (.if_icmp .gt 7, 3) := by decide +kernel
theorem own_d0_7 : decode jdk_43_method_3_code 7 = .ok (.iconst 1, 1) := by decide +kernel
theorem own_d0_8 : decode jdk_43_method_3_code 8 = .ok (.goto 4, 3) := by decide +kernel
theorem own_d0_12 : decode jdk_43_method_3_code 12 = .ok (.ireturn, 1) := by decide +kernel
theorem own_ef_own_canenc (m : MethodId) (c1 : Int32) : entryFrame m #[(.int c1)] 1 = mkF m 0 #[iv c1] [] := by first | (simp [entryFrame, mkF, argsToLocals, Value.category]; done) | rfl
set_option maxRecDepth 65536 in
set_option maxHeartbeats 40000000 in
theorem own_canenc (l : Launch) (Z : State) (a0 : Array Value) (H : own_Wld Z a0) {cw : List Jvm.Cond} (c1 : Int32) (h0 : Heap) (O0 : Ext Z.heap h0) (hc : ¬ (255 : Int32) < c1) :
    Own.Con l Z consts_1 (⟨"java/lang/StringLatin1", "canEncode", "(C)Z"⟩ : MethodName) jdk_43_method_3_code 1 (some .boolean) cw ({ frames := 0, cells := 0, slots := 0, locals := 0 } : Room) #[(.int c1)] h0 (fun v h => Keep h0 h [] ∧ v = some (.int 1)) := by
  have hw := H.1
  have hW := fun (i : Nat) (w : Jvm.Cond) (e : tables_1[i]? = some w) => hw w (List.mem_of_getElem? e)
  have hCm := H.2.1
  have hSi := H.2.2.1
  have hEL := H.2.2.2
  have hWs : ∀ d ∈ StrChars.Road.words, d.before a0 Z = true := fun d hd => hw d (own_wbackV d hd)
  have hWl : ∀ d ∈ StrChars.Road.wordsLen, d.before a0 Z = true := fun d hd => hw d (own_wlenW d hd)
  have hSA : ∀ d ∈ Bundle.stringAtoms, d.before a0 Z = true := fun d hd => hw d (own_wSA d hd)
  refine Own.Con.of own_pnb7c2a2 hEL O0 ?_
  intro p e s m below meth c T0 G vm0 hx hby hml hret hnm hG hR S0
  have hz : ∀ L : Array Slot, L.size = 1 → L.size = c.maxLocals := fun L q => q.trans hml.symm
  rw [own_ef_own_canenc]
  show G T0 (mkF m 0 #[iv c1] [])
  refine hG.st (fun t q => XS.iloadN S0.here hx rfl (hb hby own_d0_0) rfl (XS.sipush S0.here hx rfl (hb hby own_d0_1) (XS.icmpNo S0.here hx rfl (hb hby own_d0_4) rfl (flt (hc : ¬ ((255 : Int32) < c1))).2.2.1 (XS.iconst S0.here hx rfl (hb hby own_d0_7) (XS.goto S0.here hx rfl (pc0 := 8) (pc' := 12) rfl (hb hby own_d0_8) (by decide) (by decide) q))))) ?_
  show G T0 (mkF m 12 #[iv c1] [(.int 1)])
  exact Own.Sit.retN hR S0 hx (t := .boolean) hret (by simp) (hb hby own_d0_12) (by decide) (by decide) ⟨(Keep.refl _ _), rfl⟩
theorem own_pn1c965a : plainFor (⟨"java/lang/StringLatin1", "toBytes", "(C)[B"⟩ : MethodName) = true := by first | exact plainFor_of_name (by first | (simp [plainName, overriddenIn]; done) | decide +kernel) | decide +kernel
theorem own_d1_0 : decode jdk_43_method_46_code 0 = .ok (.iconst 1, 1) := by decide +kernel
theorem own_d1_1 : decode jdk_43_method_46_code 1 = .ok (.newarray .byte, 2) := by decide +kernel
theorem own_d1_3 : decode jdk_43_method_46_code 3 = .ok (.dup, 1) := by decide +kernel
theorem own_d1_4 : decode jdk_43_method_46_code 4 = .ok (.iconst 0, 1) := by decide +kernel
theorem own_d1_5 : decode jdk_43_method_46_code 5 = .ok (.iload_n 0, 1) := by decide +kernel
theorem own_d1_6 : decode jdk_43_method_46_code 6 = .ok (.i2b, 1) := by decide +kernel
theorem own_d1_7 : decode jdk_43_method_46_code 7 = .ok (.bastore, 1) := by decide +kernel
theorem own_d1_8 : decode jdk_43_method_46_code 8 = .ok (.areturn, 1) := by decide +kernel
theorem own_ef_own_tobytes (m : MethodId) (c1 : Int32) : entryFrame m #[(.int c1)] 1 = mkF m 0 #[iv c1] [] := by first | (simp [entryFrame, mkF, argsToLocals, Value.category]; done) | rfl
set_option maxRecDepth 65536 in
set_option maxHeartbeats 40000000 in
theorem own_tobytes (l : Launch) (Z : State) (a0 : Array Value) (H : own_Wld Z a0) {cw : List Jvm.Cond} (c1 : Int32) (h0 : Heap) (O0 : Ext Z.heap h0) :
    Own.Con l Z consts_1 (⟨"java/lang/StringLatin1", "toBytes", "(C)[B"⟩ : MethodName) jdk_43_method_46_code 1 (some (.array .byte)) cw ({ frames := 0, cells := 1, slots := 1, locals := 0 } : Room) #[(.int c1)] h0 (fun v h => Keep h0 h [] ∧ ∃ x kb, v = some (.ref x) ∧ h0.size ≤ x ∧ Arv Z h x kb .byte (1 : Int32) [(.int c1.toInt8.toInt32)] (.int 0)) := by
  have hw := H.1
  have hW := fun (i : Nat) (w : Jvm.Cond) (e : tables_1[i]? = some w) => hw w (List.mem_of_getElem? e)
  have hCm := H.2.1
  have hSi := H.2.2.1
  have hEL := H.2.2.2
  have hWs : ∀ d ∈ StrChars.Road.words, d.before a0 Z = true := fun d hd => hw d (own_wbackV d hd)
  have hWl : ∀ d ∈ StrChars.Road.wordsLen, d.before a0 Z = true := fun d hd => hw d (own_wlenW d hd)
  have hSA : ∀ d ∈ Bundle.stringAtoms, d.before a0 Z = true := fun d hd => hw d (own_wSA d hd)
  refine Own.Con.of own_pn1c965a hEL O0 ?_
  intro p e s m below meth c T0 G vm0 hx hby hml hret hnm hG hR S0
  have hz : ∀ L : Array Slot, L.size = 1 → L.size = c.maxLocals := fun L q => q.trans hml.symm
  rw [own_ef_own_tobytes]
  show G T0 (mkF m 0 #[iv c1] [])
  refine hG.st (fun t q => XS.iconst S0.here hx rfl (hb hby own_d1_0) q) ?_
  show G T0 (mkF m 1 #[iv c1] [(.int 1)])
  refine Own.Sit.newP hG S0 hx (aty := .byte) (hW 0 _ rfl) rfl (hb hby own_d1_1) rfl (by decide) (cap := 1) (by decide) (by decide) (by decide) (by decide) (fun T1 h1 x1 k1 g_x1 S1 J1 Sf1 (V1 : Arv Z h1 x1 k1 .byte (1 : Int32) [(.int 0)] (.int 0)) => ?_)
  have lt_x1 := V1.lt
  have ga_x1 : Z.heap.size ≤ x1 := Nat.le_trans S0.le (Nat.le_of_eq g_x1.symm)
  refine hG.st (fun t q => XS.dup S1.here hx rfl (hb hby own_d1_3) rfl rfl (XS.iconst S1.here hx rfl (hb hby own_d1_4) (XS.iloadN S1.here hx rfl (hb hby own_d1_5) rfl (XS.i2b S1.here hx rfl (hb hby own_d1_6) rfl q)))) ?_
  show G T1 (mkF m 7 #[iv c1] [(.int (c1.toInt8.toInt32)), (.int 0), (.ref x1), (.ref x1)])
  refine Own.Sit.stB hG S1 hx V1 ga_x1 Sf1 ⟨by decide, by decide⟩ 0 rfl (Nat.le_of_ble_eq_true rfl) rfl rfl (hb hby own_d1_7) (fun T2 h2 S2 J2 (V2 : Arv Z h2 x1 k1 .byte (1 : Int32) [(.int (nar .byte (c1.toInt8.toInt32)))] (.int 0)) => ?_)
  rw [own_nb] at V2
  have J3 : Own.Stp Z consts_1 vm0 h0 vm0 h2 [] := Own.Stp.trans J1 J2 (all0) (allS (Or.inr (Nat.le_of_eq g_x1.symm)) all0)
  show G T2 (mkF m 8 #[iv c1] [(.ref x1)])
  exact Own.Sit.retO hR S2 hx hret rfl (Or.inr (Or.inr (Or.inr (Or.inr ⟨rfl, rfl, rfl⟩)))) (hb hby own_d1_8) (by decide) (by decide) ⟨J3.1, x1, _, rfl, (Nat.le_of_eq g_x1.symm), V2⟩
theorem own_pn1ecdb9 : plainFor (⟨"java/lang/String", "<init>", "([BB)V"⟩ : MethodName) = true := by first | exact plainFor_of_name (by first | (simp [plainName, overriddenIn]; done) | decide +kernel) | decide +kernel
theorem own_d2_0 : decode jdk_42_method_151_code 0 = .ok (.aload_n 0, 1) := by decide +kernel
theorem own_d2_1 : decode jdk_42_method_151_code 1 = .ok (.invokespecial 1, 3) := by decide +kernel
theorem own_d2_4 : decode jdk_42_method_151_code 4 = .ok (.aload_n 0, 1) := by decide +kernel
theorem own_d2_5 : decode jdk_42_method_151_code 5 = .ok (.aload_n 1, 1) := by decide +kernel
theorem own_d2_6 : decode jdk_42_method_151_code 6 = .ok (.putfield 9, 3) := by decide +kernel
theorem own_d2_9 : decode jdk_42_method_151_code 9 = .ok (.aload_n 0, 1) := by decide +kernel
theorem own_d2_10 : decode jdk_42_method_151_code 10 = .ok (.iload_n 2, 1) := by decide +kernel
theorem own_d2_11 : decode jdk_42_method_151_code 11 = .ok (.putfield 15, 3) := by decide +kernel
theorem own_d2_14 : decode jdk_42_method_151_code 14 = .ok (.return_, 1) := by decide +kernel
theorem own_ef_own_inib (m : MethodId) (x : Addr) (b : Addr) : entryFrame m #[(.ref x), (.ref b), (.int 0)] 3 = mkF m 0 #[rv x, rv b, iv 0] [] := by first | (simp [entryFrame, mkF, argsToLocals, Value.category]; done) | rfl
set_option maxRecDepth 65536 in
set_option maxHeartbeats 40000000 in
theorem own_inib (l : Launch) (Z : State) (a0 : Array Value) (H : own_Wld Z a0) {cw : List Jvm.Cond} (x : Addr) (b : Addr) (h0 : Heap) (O0 : Ext Z.heap h0) (g_x : Z.heap.size ≤ x) (E_x : Exa Z h0 x "java/lang/String") (Fv : Fld Z h0 x "java/lang/String" "value" "[B" .null) (Fc : Fld Z h0 x "java/lang/String" "coder" "B" (.int 0)) :
    Own.Con l Z consts_1 (⟨"java/lang/String", "<init>", "([BB)V"⟩ : MethodName) jdk_42_method_151_code 3 none cw ({ frames := 1, cells := 0, slots := 0, locals := 12 } : Room) #[(.ref x), (.ref b), (.int 0)] h0 (fun v h => Keep h0 h [x] ∧ v = none ∧ Fld Z h x "java/lang/String" "value" "[B" (.ref b) ∧ Fld Z h x "java/lang/String" "coder" "B" (.int 0)) := by
  have hw := H.1
  have hW := fun (i : Nat) (w : Jvm.Cond) (e : tables_1[i]? = some w) => hw w (List.mem_of_getElem? e)
  have hCm := H.2.1
  have hSi := H.2.2.1
  have hEL := H.2.2.2
  have hWs : ∀ d ∈ StrChars.Road.words, d.before a0 Z = true := fun d hd => hw d (own_wbackV d hd)
  have hWl : ∀ d ∈ StrChars.Road.wordsLen, d.before a0 Z = true := fun d hd => hw d (own_wlenW d hd)
  have hSA : ∀ d ∈ Bundle.stringAtoms, d.before a0 Z = true := fun d hd => hw d (own_wSA d hd)
  refine Own.Con.of own_pn1ecdb9 hEL O0 ?_
  intro p e s m below meth c T0 G vm0 hx hby hml hret hnm hG hR S0
  have hz : ∀ L : Array Slot, L.size = 3 → L.size = c.maxLocals := fun L q => q.trans hml.symm
  rw [own_ef_own_inib]
  show G T0 (mkF m 0 #[rv x, rv b, iv 0] [])
  have sf_x : Safe Z consts_1 vm0 h0 x := Own.Safe.blank S0.warm.alike E_x Fv (hW 7 _ rfl)
  refine hG.st (fun t q => XS.aloadN S0.here hx rfl (hb hby own_d2_0) rfl rfl q) ?_
  show G T0 (mkF m 1 #[rv x, rv b, iv 0] [(.ref x)])
  refine Own.Sit.initO hG S0 hx (hW 21 _ rfl) (hW 22 _ rfl) (hW 23 _ rfl) rfl (hz _ rfl) rfl (hb hby own_d2_1) (by decide) (W := 0) (Own.hw0 rfl rfl) (by decide) (fun T4 S4 => ?_)
  refine hG.st (fun t q => XS.aloadN S4.here hx rfl (hb hby own_d2_4) rfl rfl (XS.aloadN S4.here hx rfl (hb hby own_d2_5) rfl rfl q)) ?_
  show G T4 (mkF m 6 #[rv x, rv b, iv 0] [(.ref b), (.ref x)])
  refine Own.Sit.putF hG S4 hx (host := "") (Or.inl (hW 36 _ rfl)) Via.refl Fv E_x (Or.inr ⟨(hW 8 _ rfl), rfl, hnm⟩) (hW 7 _ rfl) (ty := (.array .byte)) (by decide) rfl rfl g_x sf_x rfl rfl (hb hby own_d2_6) (fun T5 h5 S5 J5 W5 F5 => ?_)
  have F6 := Fld.other W5 Fc (Or.inr (slot_ne (Or.inr (hW 9 _ rfl)) (Or.inr (hW 8 _ rfl)) (by decide) (t := .byte) (by decide) (t' := (.array .byte)) (by decide)))
  refine hG.st (fun t q => XS.aloadN S5.here hx rfl (hb hby own_d2_9) rfl rfl (XS.iloadN S5.here hx rfl (hb hby own_d2_10) rfl q)) ?_
  show G T5 (mkF m 11 #[rv x, rv b, iv 0] [(.int 0), (.ref x)])
  have E7 := J5.exa E_x
  have Sf8 := J5.safe E_x.lt sf_x
  refine Own.Sit.putF hG S5 hx (host := "") (Or.inl (hW 35 _ rfl)) Via.refl F6 E7 (Or.inr ⟨(hW 9 _ rfl), rfl, hnm⟩) (hW 7 _ rfl) (ty := .byte) (by decide) rfl rfl g_x Sf8 rfl rfl (hb hby own_d2_11) (fun T9 h9 S9 J9 W9 F9 => ?_)
  have F10 := Fld.other W9 F5 (Or.inr (slot_ne (Or.inr (hW 8 _ rfl)) (Or.inr (hW 9 _ rfl)) (by decide) (t := (.array .byte)) (by decide) (t' := .byte) (by decide)))
  have J11 : Own.Stp Z consts_1 vm0 h0 vm0 h9 [x] := Own.Stp.trans J5 J9 (allS (List.mem_of_getElem? (i := 0) rfl) (all0)) (allS (Or.inl (List.mem_of_getElem? (i := 0) rfl)) all0)
  show G T9 (mkF m 14 #[rv x, rv b, iv 0] [])
  exact Own.Sit.ret0 hR S9 hx hret (hb hby own_d2_14) (by decide) (by decide) ⟨J11.1, rfl, F10, F9⟩
theorem own_one {c : Int32} (h : ¬ c < 0 ∧ ¬ (255 : Int32) < c) : ∀ d ∈ [c], ¬ d < 0 ∧ ¬ (255 : Int32) < d := fun d hd => by cases List.mem_singleton.mp hd; exact h
theorem own_pncbfe6f : plainFor (⟨"java/lang/String", "valueOf", "(C)Ljava/lang/String;"⟩ : MethodName) = true := by first | exact plainFor_of_name (by first | (simp [plainName, overriddenIn]; done) | decide +kernel) | decide +kernel
theorem own_pdba6450 : parseMethodDescriptor "(C)Z" = some ⟨[.char], some .boolean⟩ := by decide +kernel
theorem own_pde6a979 : parseMethodDescriptor "(C)[B" = some ⟨[.char], some (.array .byte)⟩ := by decide +kernel
theorem own_pd52d553 : parseMethodDescriptor "([BB)V" = some ⟨[(.array .byte), .byte], none⟩ := by decide +kernel
theorem own_d3_0 : decode jdk_42_method_139_code 0 = .ok (.getstatic 38, 3) := by decide +kernel
theorem own_d3_3 : decode jdk_42_method_139_code 3 = .ok (.ifCond .eq 23, 3) := by decide +kernel
theorem own_d3_6 : decode jdk_42_method_139_code 6 = .ok (.iload_n 0, 1) := by decide +kernel
theorem own_d3_7 : decode jdk_42_method_139_code 7 = .ok (.invokestatic 1015, 3) := by decide +kernel
theorem own_d3_10 : decode jdk_42_method_139_code 10 = .ok (.ifCond .eq 16, 3) := by decide +kernel
theorem own_d3_13 : decode jdk_42_method_139_code 13 = .ok (.new 10, 3) := by decide +kernel
theorem own_d3_16 : decode jdk_42_method_139_code 16 = .ok (.dup, 1) := by decide +kernel
theorem own_d3_17 : decode jdk_42_method_139_code 17 = .ok (.iload_n 0, 1) := by decide +kernel
theorem own_d3_18 : decode jdk_42_method_139_code 18 = .ok (.invokestatic 1018, 3) := by decide +kernel
theorem own_d3_21 : decode jdk_42_method_139_code 21 = .ok (.iconst 0, 1) := by decide +kernel
theorem own_d3_22 : decode jdk_42_method_139_code 22 = .ok (.invokespecial 209, 3) := by decide +kernel
theorem own_d3_25 : decode jdk_42_method_139_code 25 = .ok (.areturn, 1) := by decide +kernel
theorem own_ef_own_valof (m : MethodId) (c1 : Int32) : entryFrame m #[(.int c1)] 1 = mkF m 0 #[iv c1] [] := by first | (simp [entryFrame, mkF, argsToLocals, Value.category]; done) | rfl
set_option maxRecDepth 65536 in
set_option maxHeartbeats 40000000 in
theorem own_valof (l : Launch) (Z : State) (a0 : Array Value) (H : own_Wld Z a0) {cw : List Jvm.Cond} (c1 : Int32) (h0 : Heap) (O0 : Ext Z.heap h0) (hc : ¬ c1 < 0 ∧ ¬ (255 : Int32) < c1) :
    Own.Con l Z consts_1 (⟨"java/lang/String", "valueOf", "(C)Ljava/lang/String;"⟩ : MethodName) jdk_42_method_139_code 1 (some (.object "java/lang/String")) cw ({ frames := 2, cells := 2, slots := 5, locals := 27 } : Room) #[(.int c1)] h0 (fun v h => Keep h0 h [] ∧ ∃ x t, v = some (.ref x) ∧ Own.Str Z h x t ([c1] : List Int32) ∧ h0.size ≤ x) := by
  have hw := H.1
  have hW := fun (i : Nat) (w : Jvm.Cond) (e : tables_1[i]? = some w) => hw w (List.mem_of_getElem? e)
  have hCm := H.2.1
  have hSi := H.2.2.1
  have hEL := H.2.2.2
  have hWs : ∀ d ∈ StrChars.Road.words, d.before a0 Z = true := fun d hd => hw d (own_wbackV d hd)
  have hWl : ∀ d ∈ StrChars.Road.wordsLen, d.before a0 Z = true := fun d hd => hw d (own_wlenW d hd)
  have hSA : ∀ d ∈ Bundle.stringAtoms, d.before a0 Z = true := fun d hd => hw d (own_wSA d hd)
  refine Own.Con.of own_pncbfe6f hEL O0 ?_
  intro p e s m below meth c T0 G vm0 hx hby hml hret hnm hG hR S0
  have hz : ∀ L : Array Slot, L.size = 1 → L.size = c.maxLocals := fun L q => q.trans hml.symm
  rw [own_ef_own_valof]
  show G T0 (mkF m 0 #[iv c1] [])
  obtain ⟨zc, Szc, nzc⟩ := id hCm
  refine Own.Sit.getS hG S0 hx (host := "") (Or.inl (hW 24 _ rfl)) Via.refl (Szc.ext S0.old) rfl (hb hby own_d3_0) (fun T12 S12 => ?_)
  refine hG.st (fun t q => XS.ifNo S12.here hx rfl (hb hby own_d3_3) rfl ((if0 _ _).trans (feq (nzc : ¬ (zc = (0 : Int32)))).1) (XS.iloadN S12.here hx rfl (hb hby own_d3_6) rfl q)) ?_
  show G T12 (mkF m 7 #[iv c1] [(.int c1)])
  refine Own.Sit.callS hG S12 hx hEL (as := [(.int c1)]) (hW 40 _ rfl) (hW 41 _ rfl) (hW 42 _ rfl) (hW 43 _ rfl) (by decide) (own_canenc l Z a0 H c1 h0 S12.old hc.2) own_pdba6450 rfl rfl (hz _ rfl) (rest := []) rfl (W := 0) (Own.hw0 rfl rfl) (hb hby own_d3_7) (by decide) (by decide) (by decide) (by decide) (fun v13 vm13 T13 h13 S13 C13 q13 => ?_)
  obtain ⟨K13, rfl⟩ := q13
  have J13 : Own.Stp Z consts_1 vm0 h0 vm13 h13 [] := ⟨K13, C13⟩
  refine hG.st (fun t q => XS.ifNo S13.here hx rfl (hb hby own_d3_10) rfl ((if0 _ _).trans (feq (by decide : ¬ ((1 : Int32) = (0 : Int32)))).1) q) ?_
  show G T13 (mkF m 13 #[iv c1] [])
  refine Own.Sit.newO hG S13 hx (hW 44 _ rfl) (hW 7 _ rfl) (hW 6 _ rfl) rfl (hb hby own_d3_13) (by decide) (by decide) (fun T14 h14 x14 g_x14 S14 J14 Sf14 E14 D14 => ?_)
  have lt_x14 := E14.lt
  have ga_x14 : Z.heap.size ≤ x14 := Nat.le_trans S13.le (Nat.le_of_eq g_x14.symm)
  have F15 : Fld Z h14 x14 "java/lang/String" "value" "[B" .null := D14 (Or.inr (hW 8 _ rfl)) (ty := (.array .byte)) (by decide)
  have F16 : Fld Z h14 x14 "java/lang/String" "coder" "B" (.int 0) := D14 (Or.inr (hW 9 _ rfl)) (ty := .byte) (by decide)
  refine hG.st (fun t q => XS.dup S14.here hx rfl (hb hby own_d3_16) rfl rfl (XS.iloadN S14.here hx rfl (hb hby own_d3_17) rfl q)) ?_
  show G T14 (mkF m 18 #[iv c1] [(.int c1), (.ref x14), (.ref x14)])
  refine Own.Sit.callS hG S14 hx hEL (as := [(.int c1)]) (hW 45 _ rfl) (hW 46 _ rfl) (hW 42 _ rfl) (hW 47 _ rfl) (by decide) (own_tobytes l Z a0 H c1 h14 S14.old) own_pde6a979 rfl rfl (hz _ rfl) (rest := [(.ref x14), (.ref x14)]) rfl (W := 2) (Own.hw0 rfl rfl) (hb hby own_d3_18) (by decide) (by decide) (by decide) (by decide) (fun v17 vm17 T17 h17 S17 C17 q17 => ?_)
  obtain ⟨K17, x17, k17, rfl, u17, V17⟩ := q17
  have J17 : Own.Stp Z consts_1 vm13 h14 vm17 h17 [] := ⟨K17, C17⟩
  refine hG.st (fun t q => XS.iconst S17.here hx rfl (hb hby own_d3_21) q) ?_
  show G T17 (mkF m 22 #[iv c1] [(.int 0), (.ref x17), (.ref x14), (.ref x14)])
  have E18 := J17.exa E14
  have F19 := J17.fld F15 nin0
  have F20 := J17.fld F16 nin0
  refine Own.Sit.callI hG S17 hx hEL rfl (as := [(.ref x17), (.int 0)]) (hW 48 _ rfl) (hW 49 _ rfl) (hW 6 _ rfl) (hW 50 _ rfl) (by decide) (own_inib l Z a0 H x14 x17 h17 S17.old ga_x14 E18 F19 F20) own_pd52d553 rfl rfl (hz _ rfl) (rest := [(.ref x14)]) rfl (W := 1) (Own.hw0 rfl rfl) (hb hby own_d3_22) (by decide) (by decide) (by decide) (by decide) (fun v21 vm21 T21 h21 S21 C21 q21 => ?_)
  obtain ⟨K21, rfl, Fv21, Fc21⟩ := q21
  have J21 : Own.Stp Z consts_1 vm17 h17 vm21 h21 [x14] := ⟨K21, C21⟩
  have J22 : Own.Stp Z consts_1 vm0 h0 vm13 h14 [] := Own.Stp.trans J13 J14 (all0) all0
  have J23 : Own.Stp Z consts_1 vm0 h0 vm17 h17 [] := Own.Stp.trans J22 J17 (all0) all0
  have J24 : Own.Stp Z consts_1 vm0 h0 vm21 h21 [] := Own.Stp.trans J23 J21 (all0) (allS (Or.inr (Nat.le_trans J13.1.1 (Nat.le_of_eq g_x14.symm))) all0)
  have E25 := J21.exa E18
  have V26 := J21.arv V17 (ninS (Ne.symm (Exa.neArv (J17.exa E14) V17 (hW 7 _ rfl))) nin0)
  show G T21 (mkF m 25 #[iv c1] [(.ref x14)])
  exact Own.Sit.retO hR S21 hx hret rfl (Or.inr (Or.inr (Or.inr (Or.inr ⟨rfl, rfl, rfl⟩)))) (hb hby own_d3_25) (by decide) (by decide) ⟨J24.1, x14, x17, rfl, ⟨k17, E25, Fv21, Fc21, V26, own_one hc, Nat.le_of_ble_eq_true rfl⟩, (Nat.le_trans J13.1.1 (Nat.le_of_eq g_x14.symm))⟩
def own_Ob (Z : State) (h : Heap) (a : Addr) (o : Addr) (oc : Int32) (st : Addr) (sc : Int32) (bt : Addr) (bc : Int32) (ch : Int64) (lst : Int32) (ro : Int32) (rs : Int32) (rb : Int32) (rch : Int64) (ob : Int64) (sb : Int64) (bb : Int64) : Prop := Exa Z h a "com/example/scholiast/scholiast/XmlEvents" ∧ Fld Z h a "com/example/scholiast/scholiast/XmlEvents" "ops" "[I" (.ref o) ∧ Fld Z h a "com/example/scholiast/scholiast/XmlEvents" "opCount" "I" (.int oc) ∧ Fld Z h a "com/example/scholiast/scholiast/XmlEvents" "strings" "[Ljava/lang/String;" (.ref st) ∧ Fld Z h a "com/example/scholiast/scholiast/XmlEvents" "stringCount" "I" (.int sc) ∧ Fld Z h a "com/example/scholiast/scholiast/XmlEvents" "bytes" "[B" (.ref bt) ∧ Fld Z h a "com/example/scholiast/scholiast/XmlEvents" "byteCount" "I" (.int bc) ∧ Fld Z h a "com/example/scholiast/scholiast/XmlEvents" "stringChars" "J" (.long ch) ∧ Fld Z h a "com/example/scholiast/scholiast/XmlEvents" "lastStart" "I" (.int lst) ∧ Fld Z h a "com/example/scholiast/scholiast/XmlEvents" "releasedOps" "I" (.int ro) ∧ Fld Z h a "com/example/scholiast/scholiast/XmlEvents" "releasedStrings" "I" (.int rs) ∧ Fld Z h a "com/example/scholiast/scholiast/XmlEvents" "releasedBytes" "I" (.int rb) ∧ Fld Z h a "com/example/scholiast/scholiast/XmlEvents" "releasedStringChars" "J" (.long rch) ∧ Fld Z h a "com/example/scholiast/scholiast/XmlEvents" "opsBefore" "J" (.long ob) ∧ Fld Z h a "com/example/scholiast/scholiast/XmlEvents" "stringsBefore" "J" (.long sb) ∧ Fld Z h a "com/example/scholiast/scholiast/XmlEvents" "bytesBefore" "J" (.long bb)
def own_IA (Z : State) (h : Heap) (o : Addr) (ko : ClassId) : Prop := ∃ ol : List Value, Arv Z h o ko .int 4096 ol (.int 0) ∧ ol.length = 4096
def own_BA (Z : State) (h : Heap) (b : Addr) (kb : ClassId) : Prop := ∃ bl : List Value, Arv Z h b kb .byte (16384 : Int32) bl (.int 0) ∧ bl.length = 16384
def own_SA (Z : State) (h : Heap) (st : Addr) (ks : ClassId) (sl : List Value) : Prop := Arv Z h st ks (.object "java/lang/String") (4096 : Int32) sl .null ∧ Ovr Z ks "java/lang/String"
/-- null, or a String of at most three signs made ahead of B; n: its length -/
def own_NS (Z : State) (h : Heap) (B : Nat) (v : Value) (n : Int32) : Prop := (v = .null ∧ n = 0) ∨ ∃ x t cs, v = .ref x ∧ Own.Str Z h x t cs ∧ n = Int32.ofNat cs.length ∧ x < B ∧ t < B
theorem own_NS.ref {Z : State} {h : Heap} {B : Nat} {v : Value} {n : Int32} (N : own_NS Z h B v n) : v.isRef = true := by
  rcases N with ⟨rfl, -⟩ | ⟨x, t, cs, rfl, -⟩ <;> rfl
theorem own_NS.stp {Z : State} {EL : List (String × Nat)} {vm vm' : Vm} {h h' : Heap} {ws : List Addr} {B : Nat} {v : Value} {n : Int32} (N : own_NS Z h B v n) (J : Own.Stp Z EL vm h vm' h' ws) (hb : ∀ y ∈ ws, B ≤ y) : own_NS Z h' B v n := by
  rcases N with q | ⟨x, t, cs, e, S, q, hx, ht⟩
  · exact Or.inl q
  · exact Or.inr ⟨x, t, cs, e, J.str S (fun m => Nat.not_le.mpr hx (hb _ m)) (fun m => Nat.not_le.mpr ht (hb _ m)), q, hx, ht⟩
theorem own_NS.sto {Z : State} {h : Heap} {B : Nat} {v : Value} {n : Int32} {a : Addr} {ks : ClassId} {sl : List Value} (N : own_NS Z h B v n) (A : own_SA Z h a ks sl) : Sto Z h a v := by
  rcases N with ⟨rfl, -⟩ | ⟨x, t, cs, rfl, S, -⟩
  · exact Or.inl rfl
  · obtain ⟨⟨cl, A1, q1, -⟩, O⟩ := A
    exact Sto.ofV A1 q1 O (Ins.self S.exa)
theorem own_cl {j : Int32} (h : ¬ j < 0 ∧ j < 4096) : j.toNatClampNeg < 4096 := by
  have e0 : (0 : Int32).toInt = 0 := rfl
  have e8 : (4096 : Int32).toInt = 4096 := rfl
  simp only [Int32.lt_iff_toInt_lt, e0, e8] at h
  simp only [Int32.toNatClampNeg]
  omega
theorem own_up {j : Int32} (h : ¬ j < 0 ∧ j < 4000) : ¬ j < 0 ∧ j < 4096 := by
  have e0 : (0 : Int32).toInt = 0 := rfl
  have e1 : (4000 : Int32).toInt = 4000 := rfl
  have e8 : (4096 : Int32).toInt = 4096 := rfl
  simp only [Int32.lt_iff_toInt_lt, e0, e1, e8] at h ⊢
  omega
theorem own_en {j c : Int32} (h : ¬ j < 0 ∧ j < 4000) (hc : ¬ c < 0 ∧ c < 8) : ¬ (4096 : Int32) < j + c := by
  have e0 : (0 : Int32).toInt = 0 := rfl
  have e1 : (4000 : Int32).toInt = 4000 := rfl
  have e7 : (8 : Int32).toInt = 8 := rfl
  have e8 : (4096 : Int32).toInt = 4096 := rfl
  simp only [Int32.lt_iff_toInt_lt, e0, e1, e7, e8] at h hc ⊢
  have := c_iadd j c
  have := rng32 (j + c)
  omega
theorem own_enb {j c : Int32} (h : ¬ j < 0 ∧ j < 4000) (hc : ¬ c < 0 ∧ c < 8) : ¬ (16384 : Int32) < j + c := by
  have e0 : (0 : Int32).toInt = 0 := rfl
  have e1 : (4000 : Int32).toInt = 4000 := rfl
  have e7 : (8 : Int32).toInt = 8 := rfl
  have e8 : (16384 : Int32).toInt = 16384 := rfl
  simp only [Int32.lt_iff_toInt_lt, e0, e1, e7, e8] at h hc ⊢
  have := c_iadd j c
  have := rng32 (j + c)
  omega
theorem own_nf {j : Int32} (h : ¬ j < 0 ∧ j < 4000) : ¬ j = 4096 := fun q => by subst q; exact absurd h (by decide)
theorem own_cap {j c : Int32} (h : ¬ j < 0 ∧ j < 4000) (hc : ¬ c < 0 ∧ c < 8) : j.toNatClampNeg + c.toNatClampNeg ≤ 16384 := by
  have e0 : (0 : Int32).toInt = 0 := rfl
  have e1 : (4000 : Int32).toInt = 4000 := rfl
  have e7 : (8 : Int32).toInt = 8 := rfl
  simp only [Int32.lt_iff_toInt_lt, e0, e1, e7] at h hc
  simp only [Int32.toNatClampNeg]
  omega
theorem own_c8 {c : Int32} (hc : ¬ c < 0 ∧ c < 8) : (0 : Int32).toNatClampNeg + c.toNatClampNeg ≤ (8 : Int32).toNatClampNeg := by
  have e0 : (0 : Int32).toInt = 0 := rfl
  have e7 : (8 : Int32).toInt = 8 := rfl
  simp only [Int32.lt_iff_toInt_lt, e0, e7] at hc
  simp only [Int32.toNatClampNeg, e0, e7]
  omega
theorem own_NS.mono {Z : State} {h : Heap} {B B' : Nat} {v : Value} {n : Int32} (N : own_NS Z h B v n) (hb : B ≤ B') : own_NS Z h B' v n := by
  rcases N with q | ⟨x, t, cs, e, S, q, hx, ht⟩
  · exact Or.inl q
  · exact Or.inr ⟨x, t, cs, e, S, q, Nat.lt_of_lt_of_le hx hb, Nat.lt_of_lt_of_le ht hb⟩
theorem own_pn355b11 : plainFor (⟨"com/example/scholiast/scholiast/XmlEventsReleasedSizePinLaw", "str", "(I)Ljava/lang/String;"⟩ : MethodName) = true := by first | exact plainFor_of_name (by first | (simp [plainName, overriddenIn]; done) | decide +kernel) | decide +kernel
theorem own_pdabaf74 : parseMethodDescriptor "(C)Ljava/lang/String;" = some ⟨[.char], some (.object "java/lang/String")⟩ := by decide +kernel
theorem own_d4_0 : decode method_2_code 0 = .ok (.iload_n 0, 1) := by decide +kernel
theorem own_d4_1 : decode method_2_code 1 = .ok (.iconst 4, 1) := by decide +kernel
theorem own_d4_2 : decode method_2_code 2 = .ok (.iand, 1) := by decide +kernel
theorem own_d4_3 : decode method_2_code 3 = .ok (.ifCond .eq 5, 3) := by decide +kernel
theorem own_d4_6 : decode method_2_code 6 = .ok (.aconst_null, 1) := by decide +kernel
theorem own_d4_7 : decode method_2_code 7 = .ok (.areturn, 1) := by decide +kernel
theorem own_d4_8 : decode method_2_code 8 = .ok (.iload_n 0, 1) := by decide +kernel
theorem own_d4_9 : decode method_2_code 9 = .ok (.iconst 3, 1) := by decide +kernel
theorem own_d4_10 : decode method_2_code 10 = .ok (.iand, 1) := by decide +kernel
theorem own_d4_11 : decode method_2_code 11 = .ok (.istore_n 1, 1) := by decide +kernel
theorem own_d4_12 : decode method_2_code 12 = .ok (.iload_n 0, 1) := by decide +kernel
theorem own_d4_13 : decode method_2_code 13 = .ok (.bipush 8, 2) := by decide +kernel
theorem own_d4_15 : decode method_2_code 15 = .ok (.iushr, 1) := by decide +kernel
theorem own_d4_16 : decode method_2_code 16 = .ok (.sipush 255, 3) := by decide +kernel
theorem own_d4_19 : decode method_2_code 19 = .ok (.iand, 1) := by decide +kernel
theorem own_d4_20 : decode method_2_code 20 = .ok (.i2c, 1) := by decide +kernel
theorem own_d4_21 : decode method_2_code 21 = .ok (.istore_n 2, 1) := by decide +kernel
theorem own_d4_22 : decode method_2_code 22 = .ok (.iload_n 1, 1) := by decide +kernel
theorem own_d4_23 : decode method_2_code 23 = .ok (.ifCond .ne 6, 3) := by decide +kernel
theorem own_d4_26 : decode method_2_code 26 = .ok (.ldc 7, 2) := by decide +kernel
theorem own_d4_28 : decode method_2_code 28 = .ok (.areturn, 1) := by decide +kernel
theorem own_d4_29 : decode method_2_code 29 = .ok (.iload_n 1, 1) := by decide +kernel
theorem own_d4_30 : decode method_2_code 30 = .ok (.iconst 1, 1) := by decide +kernel
theorem own_d4_31 : decode method_2_code 31 = .ok (.if_icmp .ne 8, 3) := by decide +kernel
theorem own_d4_34 : decode method_2_code 34 = .ok (.iload_n 2, 1) := by decide +kernel
theorem own_d4_35 : decode method_2_code 35 = .ok (.invokestatic 9, 3) := by decide +kernel
theorem own_d4_38 : decode method_2_code 38 = .ok (.areturn, 1) := by decide +kernel
theorem own_d4_39 : decode method_2_code 39 = .ok (.iload_n 1, 1) := by decide +kernel
theorem own_d4_40 : decode method_2_code 40 = .ok (.iconst 2, 1) := by decide +kernel
theorem own_d4_41 : decode method_2_code 41 = .ok (.if_icmp .ne 22, 3) := by decide +kernel
theorem own_d4_44 : decode method_2_code 44 = .ok (.new 10, 3) := by decide +kernel
theorem own_d4_47 : decode method_2_code 47 = .ok (.dup, 1) := by decide +kernel
theorem own_d4_48 : decode method_2_code 48 = .ok (.iconst 2, 1) := by decide +kernel
theorem own_d4_49 : decode method_2_code 49 = .ok (.newarray .char, 2) := by decide +kernel
theorem own_d4_51 : decode method_2_code 51 = .ok (.dup, 1) := by decide +kernel
theorem own_d4_52 : decode method_2_code 52 = .ok (.iconst 0, 1) := by decide +kernel
theorem own_d4_53 : decode method_2_code 53 = .ok (.iload_n 2, 1) := by decide +kernel
theorem own_d4_54 : decode method_2_code 54 = .ok (.castore, 1) := by decide +kernel
theorem own_d4_55 : decode method_2_code 55 = .ok (.dup, 1) := by decide +kernel
theorem own_d4_56 : decode method_2_code 56 = .ok (.iconst 1, 1) := by decide +kernel
theorem own_d4_57 : decode method_2_code 57 = .ok (.iload_n 2, 1) := by decide +kernel
theorem own_d4_58 : decode method_2_code 58 = .ok (.castore, 1) := by decide +kernel
theorem own_d4_59 : decode method_2_code 59 = .ok (.invokespecial 15, 3) := by decide +kernel
theorem own_d4_62 : decode method_2_code 62 = .ok (.areturn, 1) := by decide +kernel
theorem own_d4_63 : decode method_2_code 63 = .ok (.new 10, 3) := by decide +kernel
theorem own_d4_66 : decode method_2_code 66 = .ok (.dup, 1) := by decide +kernel
theorem own_d4_67 : decode method_2_code 67 = .ok (.iconst 3, 1) := by decide +kernel
theorem own_d4_68 : decode method_2_code 68 = .ok (.newarray .char, 2) := by decide +kernel
theorem own_d4_70 : decode method_2_code 70 = .ok (.dup, 1) := by decide +kernel
theorem own_d4_71 : decode method_2_code 71 = .ok (.iconst 0, 1) := by decide +kernel
theorem own_d4_72 : decode method_2_code 72 = .ok (.iload_n 2, 1) := by decide +kernel
theorem own_d4_73 : decode method_2_code 73 = .ok (.castore, 1) := by decide +kernel
theorem own_d4_74 : decode method_2_code 74 = .ok (.dup, 1) := by decide +kernel
theorem own_d4_75 : decode method_2_code 75 = .ok (.iconst 1, 1) := by decide +kernel
theorem own_d4_76 : decode method_2_code 76 = .ok (.iload_n 2, 1) := by decide +kernel
theorem own_d4_77 : decode method_2_code 77 = .ok (.castore, 1) := by decide +kernel
theorem own_d4_78 : decode method_2_code 78 = .ok (.dup, 1) := by decide +kernel
theorem own_d4_79 : decode method_2_code 79 = .ok (.iconst 2, 1) := by decide +kernel
theorem own_d4_80 : decode method_2_code 80 = .ok (.iload_n 2, 1) := by decide +kernel
theorem own_d4_81 : decode method_2_code 81 = .ok (.castore, 1) := by decide +kernel
theorem own_d4_82 : decode method_2_code 82 = .ok (.invokespecial 15, 3) := by decide +kernel
theorem own_d4_85 : decode method_2_code 85 = .ok (.areturn, 1) := by decide +kernel
theorem own_ef_own_str (m : MethodId) (z0 : Int32) : entryFrame m #[(.int z0)] 3 = mkF m 0 #[iv z0, .unset, .unset] [] := by first | (simp [entryFrame, mkF, argsToLocals, Value.category]; done) | rfl
set_option maxRecDepth 65536 in
set_option maxHeartbeats 40000000 in
theorem own_str (l : Launch) (Z : State) (a0 : Array Value) (H : own_Wld Z a0) {cw : List Jvm.Cond} (z0 : Int32) (h0 : Heap) (O0 : Ext Z.heap h0) :
    Own.Con l Z consts_1 (⟨"com/example/scholiast/scholiast/XmlEventsReleasedSizePinLaw", "str", "(I)Ljava/lang/String;"⟩ : MethodName) method_2_code 3 (some (.object "java/lang/String")) cw ({ frames := 4, cells := 3, slots := 10, locals := 66 } : Room) #[(.int z0)] h0 (fun v h => Keep h0 h [] ∧ ∃ v1, v = some v1 ∧ own_NS Z h h.size v1 (own_sl z0)) := by
  have hw := H.1
  have hW := fun (i : Nat) (w : Jvm.Cond) (e : tables_1[i]? = some w) => hw w (List.mem_of_getElem? e)
  have hCm := H.2.1
  have hSi := H.2.2.1
  have hEL := H.2.2.2
  have hWs : ∀ d ∈ StrChars.Road.words, d.before a0 Z = true := fun d hd => hw d (own_wbackV d hd)
  have hWl : ∀ d ∈ StrChars.Road.wordsLen, d.before a0 Z = true := fun d hd => hw d (own_wlenW d hd)
  have hSA : ∀ d ∈ Bundle.stringAtoms, d.before a0 Z = true := fun d hd => hw d (own_wSA d hd)
  refine Own.Con.of own_pn355b11 hEL O0 ?_
  intro p e s m below meth c T0 G vm0 hx hby hml hret hnm hG hR S0
  have hz : ∀ L : Array Slot, L.size = 3 → L.size = c.maxLocals := fun L q => q.trans hml.symm
  rw [own_ef_own_str]
  show G T0 (mkF m 0 #[iv z0, .unset, .unset] [])
  refine hG.st (fun t q => XS.iloadN S0.here hx rfl (hb hby own_d4_0) rfl (XS.iconst S0.here hx rfl (hb hby own_d4_1) (XS.iand S0.here hx rfl (hb hby own_d4_2) rfl q))) ?_
  show G T0 (mkF m 3 #[iv z0, .unset, .unset] [(.int (z0 &&& (4 : Int32)))])
  by_cases hc3 : (z0 &&& (4 : Int32)) = (0 : Int32)
  ·
    refine hG.st (fun t q => XS.ifYes S0.here hx rfl (pc0 := 3) (pc' := 8) rfl (hb hby own_d4_3) rfl ((if0 _ _).trans (teq hc3).1) (by decide) (by decide) (XS.iloadN S0.here hx rfl (hb hby own_d4_8) rfl (XS.iconst S0.here hx rfl (hb hby own_d4_9) (XS.iand S0.here hx rfl (hb hby own_d4_10) rfl (XS.istoreN S0.here hx rfl (hb hby own_d4_11) rfl (l' := #[iv z0, iv (z0 &&& (3 : Int32)), .unset]) rfl q))))) ?_
    show G T0 (mkF m 12 #[iv z0, iv (z0 &&& (3 : Int32)), .unset] [])
    obtain ⟨k1, ek1⟩ : ∃ z : Int32, z = (z0 &&& (3 : Int32)) := ⟨_, rfl⟩
    rw [← ek1]
    show G T0 (mkF m 12 #[iv z0, iv k1, .unset] [])
    refine hG.st (fun t q => XS.iloadN S0.here hx rfl (hb hby own_d4_12) rfl (XS.bipush S0.here hx rfl (hb hby own_d4_13) (XS.iushr S0.here hx rfl (hb hby own_d4_15) rfl (XS.sipush S0.here hx rfl (hb hby own_d4_16) (XS.iand S0.here hx rfl (hb hby own_d4_19) rfl (XS.i2c S0.here hx rfl (hb hby own_d4_20) rfl q)))))) ?_
    show G T0 (mkF m 21 #[iv z0, iv k1, .unset] [(.int ((((z0.toUInt32 >>> ((8 : Int32) &&& 31).toUInt32).toInt32) &&& (255 : Int32)).toUInt32.toUInt16.toUInt32.toInt32))])
    refine hG.st (fun t q => XS.istoreN S0.here hx rfl (hb hby own_d4_21) rfl (l' := #[iv z0, iv k1, iv ((((z0.toUInt32 >>> ((8 : Int32) &&& 31).toUInt32).toInt32) &&& (255 : Int32)).toUInt32.toUInt16.toUInt32.toInt32)]) rfl (XS.iloadN S0.here hx rfl (hb hby own_d4_22) rfl q)) ?_
    show G T0 (mkF m 23 #[iv z0, iv k1, iv ((((z0.toUInt32 >>> ((8 : Int32) &&& 31).toUInt32).toInt32) &&& (255 : Int32)).toUInt32.toUInt16.toUInt32.toInt32)] [(.int k1)])
    by_cases hc23 : k1 = (0 : Int32)
    ·
      refine hG.st (fun t q => XS.ifNo S0.here hx rfl (hb hby own_d4_23) rfl ((if0 _ _).trans (teq hc23).2) q) ?_
      show G T0 (mkF m 26 #[iv z0, iv k1, iv ((((z0.toUInt32 >>> ((8 : Int32) &&& 31).toUInt32).toInt32) &&& (255 : Int32)).toUInt32.toUInt16.toUInt32.toInt32)] [])
      refine Own.Sit.ldc hG S0 hx hEL (hW 5 _ rfl) hSA (by decide) (cs := ([] : List Int32)) ⟨by decide, by decide⟩ (by decide) (by decide) rfl (hb hby own_d4_26) (nn := 0) (by decide) (by decide) (by decide) (by decide) (fun vm27 T27 h27 x27 y27 S27 J27 St27 L27 => ?_)
      show G T27 (mkF m 28 #[iv z0, iv k1, iv ((((z0.toUInt32 >>> ((8 : Int32) &&& 31).toUInt32).toInt32) &&& (255 : Int32)).toUInt32.toUInt16.toUInt32.toInt32)] [(.ref x27)])
      exact Own.Sit.retO hR S27 hx hret rfl (Or.inr (Or.inr (Or.inr (Or.inr ⟨rfl, rfl, rfl⟩)))) (hb hby own_d4_28) (by decide) (by decide) ⟨J27.1, _, rfl, Or.inr ⟨x27, y27, _, rfl, St27, own_sl_y hc3 (ek1.symm.trans hc23), St27.lt, St27.ltB⟩⟩
    ·
      refine hG.st (fun t q => XS.ifYes S0.here hx rfl (pc0 := 23) (pc' := 29) rfl (hb hby own_d4_23) rfl ((if0 _ _).trans (feq hc23).2) (by decide) (by decide) (XS.iloadN S0.here hx rfl (hb hby own_d4_29) rfl (XS.iconst S0.here hx rfl (hb hby own_d4_30) q))) ?_
      show G T0 (mkF m 31 #[iv z0, iv k1, iv ((((z0.toUInt32 >>> ((8 : Int32) &&& 31).toUInt32).toInt32) &&& (255 : Int32)).toUInt32.toUInt16.toUInt32.toInt32)] [(.int 1), (.int k1)])
      by_cases hc31 : k1 = (1 : Int32)
      ·
        refine hG.st (fun t q => XS.icmpNo S0.here hx rfl (hb hby own_d4_31) rfl (teq hc31).2 (XS.iloadN S0.here hx rfl (hb hby own_d4_34) rfl q)) ?_
        show G T0 (mkF m 35 #[iv z0, iv k1, iv ((((z0.toUInt32 >>> ((8 : Int32) &&& 31).toUInt32).toInt32) &&& (255 : Int32)).toUInt32.toUInt16.toUInt32.toInt32)] [(.int ((((z0.toUInt32 >>> ((8 : Int32) &&& 31).toUInt32).toInt32) &&& (255 : Int32)).toUInt32.toUInt16.toUInt32.toInt32))])
        refine Own.Sit.callS hG S0 hx hEL (as := [(.int ((((z0.toUInt32 >>> ((8 : Int32) &&& 31).toUInt32).toInt32) &&& (255 : Int32)).toUInt32.toUInt16.toUInt32.toInt32))]) (hW 37 _ rfl) (hW 38 _ rfl) (hW 6 _ rfl) (hW 39 _ rfl) (by decide) (own_valof l Z a0 H ((((z0.toUInt32 >>> ((8 : Int32) &&& 31).toUInt32).toInt32) &&& (255 : Int32)).toUInt32.toUInt16.toUInt32.toInt32) h0 S0.old (own_a255 _)) own_pdabaf74 rfl rfl (hz _ rfl) (rest := []) rfl (W := 0) (Own.hw0 rfl rfl) (hb hby own_d4_35) (by decide) (by decide) (by decide) (by decide) (fun v28 vm28 T28 h28 S28 C28 q28 => ?_)
        obtain ⟨K28, x28, y28, rfl, St28, u28⟩ := q28
        have J28 : Own.Stp Z consts_1 vm0 h0 vm28 h28 [] := ⟨K28, C28⟩
        show G T28 (mkF m 38 #[iv z0, iv k1, iv ((((z0.toUInt32 >>> ((8 : Int32) &&& 31).toUInt32).toInt32) &&& (255 : Int32)).toUInt32.toUInt16.toUInt32.toInt32)] [(.ref x28)])
        exact Own.Sit.retO hR S28 hx hret rfl (Or.inr (Or.inr (Or.inr (Or.inr ⟨rfl, rfl, rfl⟩)))) (hb hby own_d4_38) (by decide) (by decide) ⟨J28.1, _, rfl, Or.inr ⟨x28, y28, _, rfl, St28, own_sl_y hc3 (ek1.symm.trans hc31), St28.lt, St28.ltB⟩⟩
      ·
        refine hG.st (fun t q => XS.icmpYes S0.here hx rfl (pc0 := 31) (pc' := 39) rfl (hb hby own_d4_31) rfl (feq hc31).2 (by decide) (by decide) (XS.iloadN S0.here hx rfl (hb hby own_d4_39) rfl (XS.iconst S0.here hx rfl (hb hby own_d4_40) q))) ?_
        show G T0 (mkF m 41 #[iv z0, iv k1, iv ((((z0.toUInt32 >>> ((8 : Int32) &&& 31).toUInt32).toInt32) &&& (255 : Int32)).toUInt32.toUInt16.toUInt32.toInt32)] [(.int 2), (.int k1)])
        by_cases hc41 : k1 = (2 : Int32)
        ·
          refine hG.st (fun t q => XS.icmpNo S0.here hx rfl (hb hby own_d4_41) rfl (teq hc41).2 q) ?_
          show G T0 (mkF m 44 #[iv z0, iv k1, iv ((((z0.toUInt32 >>> ((8 : Int32) &&& 31).toUInt32).toInt32) &&& (255 : Int32)).toUInt32.toUInt16.toUInt32.toInt32)] [])
          refine Own.Sit.newO hG S0 hx (hW 12 _ rfl) (hW 7 _ rfl) (hW 6 _ rfl) rfl (hb hby own_d4_44) (by decide) (by decide) (fun T29 h29 x29 g_x29 S29 J29 Sf29 E29 D29 => ?_)
          have lt_x29 := E29.lt
          have ga_x29 : Z.heap.size ≤ x29 := Nat.le_trans S0.le (Nat.le_of_eq g_x29.symm)
          have F30 : Fld Z h29 x29 "java/lang/String" "value" "[B" .null := D29 (Or.inr (hW 8 _ rfl)) (ty := (.array .byte)) (by decide)
          have F31 : Fld Z h29 x29 "java/lang/String" "coder" "B" (.int 0) := D29 (Or.inr (hW 9 _ rfl)) (ty := .byte) (by decide)
          refine hG.st (fun t q => XS.dup S29.here hx rfl (hb hby own_d4_47) rfl rfl (XS.iconst S29.here hx rfl (hb hby own_d4_48) q)) ?_
          show G T29 (mkF m 49 #[iv z0, iv k1, iv ((((z0.toUInt32 >>> ((8 : Int32) &&& 31).toUInt32).toInt32) &&& (255 : Int32)).toUInt32.toUInt16.toUInt32.toInt32)] [(.int 2), (.ref x29), (.ref x29)])
          refine Own.Sit.newP hG S29 hx (aty := .char) (hW 13 _ rfl) rfl (hb hby own_d4_49) rfl (by decide) (cap := 2) (by decide) (by decide) (by decide) (by decide) (fun T32 h32 x32 k32 g_x32 S32 J32 Sf32 (V32 : Arv Z h32 x32 k32 .char (2 : Int32) [(.int 0), (.int 0)] (.int 0)) => ?_)
          have lt_x32 := V32.lt
          have ga_x32 : Z.heap.size ≤ x32 := Nat.le_trans S29.le (Nat.le_of_eq g_x32.symm)
          refine hG.st (fun t q => XS.dup S32.here hx rfl (hb hby own_d4_51) rfl rfl (XS.iconst S32.here hx rfl (hb hby own_d4_52) (XS.iloadN S32.here hx rfl (hb hby own_d4_53) rfl q))) ?_
          show G T32 (mkF m 54 #[iv z0, iv k1, iv ((((z0.toUInt32 >>> ((8 : Int32) &&& 31).toUInt32).toInt32) &&& (255 : Int32)).toUInt32.toUInt16.toUInt32.toInt32)] [(.int ((((z0.toUInt32 >>> ((8 : Int32) &&& 31).toUInt32).toInt32) &&& (255 : Int32)).toUInt32.toUInt16.toUInt32.toInt32)), (.int 0), (.ref x32), (.ref x32), (.ref x29), (.ref x29)])
          refine Own.Sit.stC hG S32 hx V32 ga_x32 ⟨by decide, by decide⟩ 0 rfl (Nat.le_of_ble_eq_true rfl) rfl rfl (hb hby own_d4_54) (fun T33 h33 S33 J33 (V33 : Arv Z h33 x32 k32 .char (2 : Int32) [(.int (nar .char ((((z0.toUInt32 >>> ((8 : Int32) &&& 31).toUInt32).toInt32) &&& (255 : Int32)).toUInt32.toUInt16.toUInt32.toInt32))), (.int 0)] (.int 0)) => ?_)
          refine hG.st (fun t q => XS.dup S33.here hx rfl (hb hby own_d4_55) rfl rfl (XS.iconst S33.here hx rfl (hb hby own_d4_56) (XS.iloadN S33.here hx rfl (hb hby own_d4_57) rfl q))) ?_
          show G T33 (mkF m 58 #[iv z0, iv k1, iv ((((z0.toUInt32 >>> ((8 : Int32) &&& 31).toUInt32).toInt32) &&& (255 : Int32)).toUInt32.toUInt16.toUInt32.toInt32)] [(.int ((((z0.toUInt32 >>> ((8 : Int32) &&& 31).toUInt32).toInt32) &&& (255 : Int32)).toUInt32.toUInt16.toUInt32.toInt32)), (.int 1), (.ref x32), (.ref x32), (.ref x29), (.ref x29)])
          refine Own.Sit.stC hG S33 hx V33 ga_x32 ⟨by decide, by decide⟩ 1 rfl (Nat.le_of_ble_eq_true rfl) rfl rfl (hb hby own_d4_58) (fun T34 h34 S34 J34 (V34 : Arv Z h34 x32 k32 .char (2 : Int32) [(.int (nar .char ((((z0.toUInt32 >>> ((8 : Int32) &&& 31).toUInt32).toInt32) &&& (255 : Int32)).toUInt32.toUInt16.toUInt32.toInt32))), (.int (nar .char ((((z0.toUInt32 >>> ((8 : Int32) &&& 31).toUInt32).toInt32) &&& (255 : Int32)).toUInt32.toUInt16.toUInt32.toInt32)))] (.int 0)) => ?_)
          have J35 : Own.Stp Z consts_1 vm0 h29 vm0 h33 [] := Own.Stp.trans J32 J33 (all0) (allS (Or.inr (Nat.le_of_eq g_x32.symm)) all0)
          have J36 : Own.Stp Z consts_1 vm0 h29 vm0 h34 [] := Own.Stp.trans J35 J34 (all0) (allS (Or.inr (Nat.le_of_eq g_x32.symm)) all0)
          have E37 := J36.exa E29
          have F38 := J36.fld F30 nin0
          have F39 := J36.fld F31 nin0
          have Sf40 := J36.safe lt_x29 Sf29
          have hp41 : ∀ c ∈ ([(nar .char ((((z0.toUInt32 >>> ((8 : Int32) &&& 31).toUInt32).toInt32) &&& (255 : Int32)).toUInt32.toUInt16.toUInt32.toInt32)), (nar .char ((((z0.toUInt32 >>> ((8 : Int32) &&& 31).toUInt32).toInt32) &&& (255 : Int32)).toUInt32.toUInt16.toUInt32.toInt32))] : List Int32), ¬ c < 0 ∧ ¬ (255 : Int32) < c := by
            intro c hc
            simp only [List.mem_cons, List.not_mem_nil, or_false] at hc
            rcases hc with rfl | rfl
            · exact Own.and255 _
            · exact Own.and255 _
          show G T34 (mkF m 59 #[iv z0, iv k1, iv ((((z0.toUInt32 >>> ((8 : Int32) &&& 31).toUInt32).toInt32) &&& (255 : Int32)).toUInt32.toUInt16.toUInt32.toInt32)] [(.ref x32), (.ref x29), (.ref x29)])
          refine Own.Sit.newStr hG S34 hx hWs hCm (hW 7 _ rfl) (hW 14 _ rfl) (hW 15 _ rfl) (cs := ([(nar .char ((((z0.toUInt32 >>> ((8 : Int32) &&& 31).toUInt32).toInt32) &&& (255 : Int32)).toUInt32.toUInt16.toUInt32.toInt32)), (nar .char ((((z0.toUInt32 >>> ((8 : Int32) &&& 31).toUInt32).toInt32) &&& (255 : Int32)).toUInt32.toUInt16.toUInt32.toInt32))] : List Int32)) ga_x29 Sf40 E37 F38 F39 V34 rfl (Nat.le_of_ble_eq_true rfl) (Nat.le_of_ble_eq_true rfl) hp41 (nn := 2) (Nat.le_of_ble_eq_true rfl) rfl (hz _ rfl) (rest := [(.ref x29)]) rfl (W := 1) (Own.hw0 rfl rfl) (hb hby own_d4_59) (by decide) (by decide) (by decide) (by decide) (fun T42 h42 y42 S42 J42 u42 St42 => ?_)
          have J43 : Own.Stp Z consts_1 vm0 h0 vm0 h32 [] := Own.Stp.trans J29 J32 (all0) all0
          have J44 : Own.Stp Z consts_1 vm0 h0 vm0 h33 [] := Own.Stp.trans J43 J33 (all0) (allS (Or.inr (Nat.le_trans J29.1.1 (Nat.le_of_eq g_x32.symm))) all0)
          have J45 : Own.Stp Z consts_1 vm0 h0 vm0 h34 [] := Own.Stp.trans J44 J34 (all0) (allS (Or.inr (Nat.le_trans J29.1.1 (Nat.le_of_eq g_x32.symm))) all0)
          have J46 : Own.Stp Z consts_1 vm0 h0 vm0 h42 [] := Own.Stp.trans J45 J42 (all0) (allS (Or.inr (Nat.le_of_eq g_x29.symm)) all0)
          show G T42 (mkF m 62 #[iv z0, iv k1, iv ((((z0.toUInt32 >>> ((8 : Int32) &&& 31).toUInt32).toInt32) &&& (255 : Int32)).toUInt32.toUInt16.toUInt32.toInt32)] [(.ref x29)])
          exact Own.Sit.retO hR S42 hx hret rfl (Or.inr (Or.inr (Or.inr (Or.inr ⟨rfl, rfl, rfl⟩)))) (hb hby own_d4_62) (by decide) (by decide) ⟨J46.1, _, rfl, Or.inr ⟨x29, y42, _, rfl, St42, own_sl_y hc3 (ek1.symm.trans hc41), St42.lt, St42.ltB⟩⟩
        ·
          refine hG.st (fun t q => XS.icmpYes S0.here hx rfl (pc0 := 41) (pc' := 63) rfl (hb hby own_d4_41) rfl (feq hc41).2 (by decide) (by decide) q) ?_
          show G T0 (mkF m 63 #[iv z0, iv k1, iv ((((z0.toUInt32 >>> ((8 : Int32) &&& 31).toUInt32).toInt32) &&& (255 : Int32)).toUInt32.toUInt16.toUInt32.toInt32)] [])
          refine Own.Sit.newO hG S0 hx (hW 12 _ rfl) (hW 7 _ rfl) (hW 6 _ rfl) rfl (hb hby own_d4_63) (by decide) (by decide) (fun T47 h47 x47 g_x47 S47 J47 Sf47 E47 D47 => ?_)
          have lt_x47 := E47.lt
          have ga_x47 : Z.heap.size ≤ x47 := Nat.le_trans S0.le (Nat.le_of_eq g_x47.symm)
          have F48 : Fld Z h47 x47 "java/lang/String" "value" "[B" .null := D47 (Or.inr (hW 8 _ rfl)) (ty := (.array .byte)) (by decide)
          have F49 : Fld Z h47 x47 "java/lang/String" "coder" "B" (.int 0) := D47 (Or.inr (hW 9 _ rfl)) (ty := .byte) (by decide)
          refine hG.st (fun t q => XS.dup S47.here hx rfl (hb hby own_d4_66) rfl rfl (XS.iconst S47.here hx rfl (hb hby own_d4_67) q)) ?_
          show G T47 (mkF m 68 #[iv z0, iv k1, iv ((((z0.toUInt32 >>> ((8 : Int32) &&& 31).toUInt32).toInt32) &&& (255 : Int32)).toUInt32.toUInt16.toUInt32.toInt32)] [(.int 3), (.ref x47), (.ref x47)])
          refine Own.Sit.newP hG S47 hx (aty := .char) (hW 13 _ rfl) rfl (hb hby own_d4_68) rfl (by decide) (cap := 3) (by decide) (by decide) (by decide) (by decide) (fun T50 h50 x50 k50 g_x50 S50 J50 Sf50 (V50 : Arv Z h50 x50 k50 .char (3 : Int32) [(.int 0), (.int 0), (.int 0)] (.int 0)) => ?_)
          have lt_x50 := V50.lt
          have ga_x50 : Z.heap.size ≤ x50 := Nat.le_trans S47.le (Nat.le_of_eq g_x50.symm)
          refine hG.st (fun t q => XS.dup S50.here hx rfl (hb hby own_d4_70) rfl rfl (XS.iconst S50.here hx rfl (hb hby own_d4_71) (XS.iloadN S50.here hx rfl (hb hby own_d4_72) rfl q))) ?_
          show G T50 (mkF m 73 #[iv z0, iv k1, iv ((((z0.toUInt32 >>> ((8 : Int32) &&& 31).toUInt32).toInt32) &&& (255 : Int32)).toUInt32.toUInt16.toUInt32.toInt32)] [(.int ((((z0.toUInt32 >>> ((8 : Int32) &&& 31).toUInt32).toInt32) &&& (255 : Int32)).toUInt32.toUInt16.toUInt32.toInt32)), (.int 0), (.ref x50), (.ref x50), (.ref x47), (.ref x47)])
          refine Own.Sit.stC hG S50 hx V50 ga_x50 ⟨by decide, by decide⟩ 0 rfl (Nat.le_of_ble_eq_true rfl) rfl rfl (hb hby own_d4_73) (fun T51 h51 S51 J51 (V51 : Arv Z h51 x50 k50 .char (3 : Int32) [(.int (nar .char ((((z0.toUInt32 >>> ((8 : Int32) &&& 31).toUInt32).toInt32) &&& (255 : Int32)).toUInt32.toUInt16.toUInt32.toInt32))), (.int 0), (.int 0)] (.int 0)) => ?_)
          refine hG.st (fun t q => XS.dup S51.here hx rfl (hb hby own_d4_74) rfl rfl (XS.iconst S51.here hx rfl (hb hby own_d4_75) (XS.iloadN S51.here hx rfl (hb hby own_d4_76) rfl q))) ?_
          show G T51 (mkF m 77 #[iv z0, iv k1, iv ((((z0.toUInt32 >>> ((8 : Int32) &&& 31).toUInt32).toInt32) &&& (255 : Int32)).toUInt32.toUInt16.toUInt32.toInt32)] [(.int ((((z0.toUInt32 >>> ((8 : Int32) &&& 31).toUInt32).toInt32) &&& (255 : Int32)).toUInt32.toUInt16.toUInt32.toInt32)), (.int 1), (.ref x50), (.ref x50), (.ref x47), (.ref x47)])
          refine Own.Sit.stC hG S51 hx V51 ga_x50 ⟨by decide, by decide⟩ 1 rfl (Nat.le_of_ble_eq_true rfl) rfl rfl (hb hby own_d4_77) (fun T52 h52 S52 J52 (V52 : Arv Z h52 x50 k50 .char (3 : Int32) [(.int (nar .char ((((z0.toUInt32 >>> ((8 : Int32) &&& 31).toUInt32).toInt32) &&& (255 : Int32)).toUInt32.toUInt16.toUInt32.toInt32))), (.int (nar .char ((((z0.toUInt32 >>> ((8 : Int32) &&& 31).toUInt32).toInt32) &&& (255 : Int32)).toUInt32.toUInt16.toUInt32.toInt32))), (.int 0)] (.int 0)) => ?_)
          refine hG.st (fun t q => XS.dup S52.here hx rfl (hb hby own_d4_78) rfl rfl (XS.iconst S52.here hx rfl (hb hby own_d4_79) (XS.iloadN S52.here hx rfl (hb hby own_d4_80) rfl q))) ?_
          show G T52 (mkF m 81 #[iv z0, iv k1, iv ((((z0.toUInt32 >>> ((8 : Int32) &&& 31).toUInt32).toInt32) &&& (255 : Int32)).toUInt32.toUInt16.toUInt32.toInt32)] [(.int ((((z0.toUInt32 >>> ((8 : Int32) &&& 31).toUInt32).toInt32) &&& (255 : Int32)).toUInt32.toUInt16.toUInt32.toInt32)), (.int 2), (.ref x50), (.ref x50), (.ref x47), (.ref x47)])
          refine Own.Sit.stC hG S52 hx V52 ga_x50 ⟨by decide, by decide⟩ 2 rfl (Nat.le_of_ble_eq_true rfl) rfl rfl (hb hby own_d4_81) (fun T53 h53 S53 J53 (V53 : Arv Z h53 x50 k50 .char (3 : Int32) [(.int (nar .char ((((z0.toUInt32 >>> ((8 : Int32) &&& 31).toUInt32).toInt32) &&& (255 : Int32)).toUInt32.toUInt16.toUInt32.toInt32))), (.int (nar .char ((((z0.toUInt32 >>> ((8 : Int32) &&& 31).toUInt32).toInt32) &&& (255 : Int32)).toUInt32.toUInt16.toUInt32.toInt32))), (.int (nar .char ((((z0.toUInt32 >>> ((8 : Int32) &&& 31).toUInt32).toInt32) &&& (255 : Int32)).toUInt32.toUInt16.toUInt32.toInt32)))] (.int 0)) => ?_)
          have J54 : Own.Stp Z consts_1 vm0 h47 vm0 h51 [] := Own.Stp.trans J50 J51 (all0) (allS (Or.inr (Nat.le_of_eq g_x50.symm)) all0)
          have J55 : Own.Stp Z consts_1 vm0 h47 vm0 h52 [] := Own.Stp.trans J54 J52 (all0) (allS (Or.inr (Nat.le_of_eq g_x50.symm)) all0)
          have J56 : Own.Stp Z consts_1 vm0 h47 vm0 h53 [] := Own.Stp.trans J55 J53 (all0) (allS (Or.inr (Nat.le_of_eq g_x50.symm)) all0)
          have E57 := J56.exa E47
          have F58 := J56.fld F48 nin0
          have F59 := J56.fld F49 nin0
          have Sf60 := J56.safe lt_x47 Sf47
          have hp61 : ∀ c ∈ ([(nar .char ((((z0.toUInt32 >>> ((8 : Int32) &&& 31).toUInt32).toInt32) &&& (255 : Int32)).toUInt32.toUInt16.toUInt32.toInt32)), (nar .char ((((z0.toUInt32 >>> ((8 : Int32) &&& 31).toUInt32).toInt32) &&& (255 : Int32)).toUInt32.toUInt16.toUInt32.toInt32)), (nar .char ((((z0.toUInt32 >>> ((8 : Int32) &&& 31).toUInt32).toInt32) &&& (255 : Int32)).toUInt32.toUInt16.toUInt32.toInt32))] : List Int32), ¬ c < 0 ∧ ¬ (255 : Int32) < c := by
            intro c hc
            simp only [List.mem_cons, List.not_mem_nil, or_false] at hc
            rcases hc with rfl | rfl | rfl
            · exact Own.and255 _
            · exact Own.and255 _
            · exact Own.and255 _
          show G T53 (mkF m 82 #[iv z0, iv k1, iv ((((z0.toUInt32 >>> ((8 : Int32) &&& 31).toUInt32).toInt32) &&& (255 : Int32)).toUInt32.toUInt16.toUInt32.toInt32)] [(.ref x50), (.ref x47), (.ref x47)])
          refine Own.Sit.newStr hG S53 hx hWs hCm (hW 7 _ rfl) (hW 14 _ rfl) (hW 15 _ rfl) (cs := ([(nar .char ((((z0.toUInt32 >>> ((8 : Int32) &&& 31).toUInt32).toInt32) &&& (255 : Int32)).toUInt32.toUInt16.toUInt32.toInt32)), (nar .char ((((z0.toUInt32 >>> ((8 : Int32) &&& 31).toUInt32).toInt32) &&& (255 : Int32)).toUInt32.toUInt16.toUInt32.toInt32)), (nar .char ((((z0.toUInt32 >>> ((8 : Int32) &&& 31).toUInt32).toInt32) &&& (255 : Int32)).toUInt32.toUInt16.toUInt32.toInt32))] : List Int32)) ga_x47 Sf60 E57 F58 F59 V53 rfl (Nat.le_of_ble_eq_true rfl) (Nat.le_of_ble_eq_true rfl) hp61 (nn := 3) (Nat.le_of_ble_eq_true rfl) rfl (hz _ rfl) (rest := [(.ref x47)]) rfl (W := 1) (Own.hw0 rfl rfl) (hb hby own_d4_82) (by decide) (by decide) (by decide) (by decide) (fun T62 h62 y62 S62 J62 u62 St62 => ?_)
          have J63 : Own.Stp Z consts_1 vm0 h0 vm0 h50 [] := Own.Stp.trans J47 J50 (all0) all0
          have J64 : Own.Stp Z consts_1 vm0 h0 vm0 h51 [] := Own.Stp.trans J63 J51 (all0) (allS (Or.inr (Nat.le_trans J47.1.1 (Nat.le_of_eq g_x50.symm))) all0)
          have J65 : Own.Stp Z consts_1 vm0 h0 vm0 h52 [] := Own.Stp.trans J64 J52 (all0) (allS (Or.inr (Nat.le_trans J47.1.1 (Nat.le_of_eq g_x50.symm))) all0)
          have J66 : Own.Stp Z consts_1 vm0 h0 vm0 h53 [] := Own.Stp.trans J65 J53 (all0) (allS (Or.inr (Nat.le_trans J47.1.1 (Nat.le_of_eq g_x50.symm))) all0)
          have J67 : Own.Stp Z consts_1 vm0 h0 vm0 h62 [] := Own.Stp.trans J66 J62 (all0) (allS (Or.inr (Nat.le_of_eq g_x47.symm)) all0)
          show G T62 (mkF m 85 #[iv z0, iv k1, iv ((((z0.toUInt32 >>> ((8 : Int32) &&& 31).toUInt32).toInt32) &&& (255 : Int32)).toUInt32.toUInt16.toUInt32.toInt32)] [(.ref x47)])
          exact Own.Sit.retO hR S62 hx hret rfl (Or.inr (Or.inr (Or.inr (Or.inr ⟨rfl, rfl, rfl⟩)))) (hb hby own_d4_85) (by decide) (by decide) ⟨J67.1, _, rfl, Or.inr ⟨x47, y62, _, rfl, St62, own_sl_y hc3 (ek1.symm.trans (own_three ek1 hc23 hc31 hc41)), St62.lt, St62.ltB⟩⟩
  ·
    refine hG.st (fun t q => XS.ifNo S0.here hx rfl (hb hby own_d4_3) rfl ((if0 _ _).trans (feq hc3).1) (XS.aconstNull S0.here hx rfl (hb hby own_d4_6) q)) ?_
    show G T0 (mkF m 7 #[iv z0, .unset, .unset] [.null])
    exact Own.Sit.retO hR S0 hx hret rfl (Or.inr (Or.inr (Or.inr (Or.inr ⟨rfl, rfl, rfl⟩)))) (hb hby own_d4_7) (by decide) (by decide) ⟨(Keep.refl _ _), .null, rfl, Or.inl ⟨rfl, own_sl_n hc3⟩⟩
theorem own_pn72fd7c : plainFor (⟨"com/example/scholiast/scholiast/XmlEventsReleasedSizePinLaw", "len", "(I)J"⟩ : MethodName) = true := by first | exact plainFor_of_name (by first | (simp [plainName, overriddenIn]; done) | decide +kernel) | decide +kernel
theorem own_d5_0 : decode method_3_code 0 = .ok (.iload_n 0, 1) := by decide +kernel
theorem own_d5_1 : decode method_3_code 1 = .ok (.iconst 4, 1) := by decide +kernel
theorem own_d5_2 : decode method_3_code 2 = .ok (.iand, 1) := by decide +kernel
theorem own_d5_3 : decode method_3_code 3 = .ok (.ifCond .eq 5, 3) := by decide +kernel
theorem own_d5_6 : decode method_3_code 6 = .ok (.lconst 0, 1) := by decide +kernel
theorem own_d5_7 : decode method_3_code 7 = .ok (.lreturn, 1) := by decide +kernel
theorem own_d5_8 : decode method_3_code 8 = .ok (.iload_n 0, 1) := by decide +kernel
theorem own_d5_9 : decode method_3_code 9 = .ok (.iconst 3, 1) := by decide +kernel
theorem own_d5_10 : decode method_3_code 10 = .ok (.iand, 1) := by decide +kernel
theorem own_d5_11 : decode method_3_code 11 = .ok (.i2l, 1) := by decide +kernel
theorem own_d5_12 : decode method_3_code 12 = .ok (.lreturn, 1) := by decide +kernel
theorem own_ef_own_ln (m : MethodId) (z0 : Int32) : entryFrame m #[(.int z0)] 1 = mkF m 0 #[iv z0] [] := by first | (simp [entryFrame, mkF, argsToLocals, Value.category]; done) | rfl
set_option maxRecDepth 65536 in
set_option maxHeartbeats 40000000 in
theorem own_ln (l : Launch) (Z : State) (a0 : Array Value) (H : own_Wld Z a0) {cw : List Jvm.Cond} (z0 : Int32) (h0 : Heap) (O0 : Ext Z.heap h0) :
    Own.Con l Z consts_1 (⟨"com/example/scholiast/scholiast/XmlEventsReleasedSizePinLaw", "len", "(I)J"⟩ : MethodName) method_3_code 1 (some .long) cw ({ frames := 0, cells := 0, slots := 0, locals := 0 } : Room) #[(.int z0)] h0 (fun v h => Keep h0 h [] ∧ v = some (.long (own_sl z0).toInt64)) := by
  have hw := H.1
  have hW := fun (i : Nat) (w : Jvm.Cond) (e : tables_1[i]? = some w) => hw w (List.mem_of_getElem? e)
  have hCm := H.2.1
  have hSi := H.2.2.1
  have hEL := H.2.2.2
  have hWs : ∀ d ∈ StrChars.Road.words, d.before a0 Z = true := fun d hd => hw d (own_wbackV d hd)
  have hWl : ∀ d ∈ StrChars.Road.wordsLen, d.before a0 Z = true := fun d hd => hw d (own_wlenW d hd)
  have hSA : ∀ d ∈ Bundle.stringAtoms, d.before a0 Z = true := fun d hd => hw d (own_wSA d hd)
  refine Own.Con.of own_pn72fd7c hEL O0 ?_
  intro p e s m below meth c T0 G vm0 hx hby hml hret hnm hG hR S0
  have hz : ∀ L : Array Slot, L.size = 1 → L.size = c.maxLocals := fun L q => q.trans hml.symm
  rw [own_ef_own_ln]
  show G T0 (mkF m 0 #[iv z0] [])
  refine hG.st (fun t q => XS.iloadN S0.here hx rfl (hb hby own_d5_0) rfl (XS.iconst S0.here hx rfl (hb hby own_d5_1) (XS.iand S0.here hx rfl (hb hby own_d5_2) rfl q))) ?_
  show G T0 (mkF m 3 #[iv z0] [(.int (z0 &&& (4 : Int32)))])
  by_cases hc3 : (z0 &&& (4 : Int32)) = (0 : Int32)
  ·
    refine hG.st (fun t q => XS.ifYes S0.here hx rfl (pc0 := 3) (pc' := 8) rfl (hb hby own_d5_3) rfl ((if0 _ _).trans (teq hc3).1) (by decide) (by decide) (XS.iloadN S0.here hx rfl (hb hby own_d5_8) rfl (XS.iconst S0.here hx rfl (hb hby own_d5_9) (XS.iand S0.here hx rfl (hb hby own_d5_10) rfl (XS.i2l S0.here hx rfl (hb hby own_d5_11) rfl q))))) ?_
    show G T0 (mkF m 12 #[iv z0] [(.long ((z0 &&& (3 : Int32)).toInt64))])
    exact Own.Sit.retO hR S0 hx hret rfl (Or.inr (Or.inl ⟨rfl, rfl, _, rfl⟩)) (hb hby own_d5_12) (by decide) (by decide) ⟨(Keep.refl _ _), by rw [own_sl_y hc3 rfl]⟩
  ·
    refine hG.st (fun t q => XS.ifNo S0.here hx rfl (hb hby own_d5_3) rfl ((if0 _ _).trans (feq hc3).1) (XS.lconst S0.here hx rfl (hb hby own_d5_6) q)) ?_
    show G T0 (mkF m 7 #[iv z0] [(.long (0 : Int64))])
    exact Own.Sit.retO hR S0 hx hret rfl (Or.inr (Or.inl ⟨rfl, rfl, _, rfl⟩)) (hb hby own_d5_7) (by decide) (by decide) ⟨(Keep.refl _ _), by rw [own_sl_n hc3]; rfl⟩
theorem own_iat {Z : State} {h : Heap} {o : Addr} {ko : ClassId} {ol : List Value} (A : Arv Z h o ko .int 4096 ol (.int 0)) {j : Int32} (hj : j.toNatClampNeg < 4096) : ∃ w : Int32, ol.getD j.toNatClampNeg (.int 0) = .int w := by
  obtain ⟨cl, A1, q1, q2, q3, q4, q5⟩ := A
  have q := q5 j.toNatClampNeg (by rw [q2]; exact hj)
  obtain ⟨x, hx⟩ := fit_I q (Or.inl rfl)
  exact ⟨x, hx⟩
theorem own_len3 {bl us : List Value} {d n : Nat} (h : bl.length = 16384) (hu : us.length = n) (hd : d + n ≤ 16384) : (bl.take d ++ us ++ bl.drop (d + n)).length = 16384 := by
  simp [h, hu]; omega
theorem own_pn69553e : plainFor (⟨"com/example/scholiast/scholiast/XmlEvents", "ensureOps", "(I)V"⟩ : MethodName) = true := by first | exact plainFor_of_name (by first | (simp [plainName, overriddenIn]; done) | decide +kernel) | decide +kernel
theorem own_d6_0 : decode prog_53_method_32_code 0 = .ok (.aload_n 0, 1) := by decide +kernel
theorem own_d6_1 : decode prog_53_method_32_code 1 = .ok (.getfield 34, 3) := by decide +kernel
theorem own_d6_4 : decode prog_53_method_32_code 4 = .ok (.iload_n 1, 1) := by decide +kernel
theorem own_d6_5 : decode prog_53_method_32_code 5 = .ok (.iadd, 1) := by decide +kernel
theorem own_d6_6 : decode prog_53_method_32_code 6 = .ok (.aload_n 0, 1) := by decide +kernel
theorem own_d6_7 : decode prog_53_method_32_code 7 = .ok (.getfield 7, 3) := by decide +kernel
theorem own_d6_10 : decode prog_53_method_32_code 10 = .ok (.arraylength, 1) := by decide +kernel
theorem own_d6_11 : decode prog_53_method_32_code 11 = .ok (.if_icmp .le 30, 3) := by decide +kernel
theorem own_d6_41 : decode prog_53_method_32_code 41 = .ok (.return_, 1) := by decide +kernel
theorem own_ef_own_eo1 (m : MethodId) (a : Addr) : entryFrame m #[(.ref a), (.int 1)] 2 = mkF m 0 #[rv a, iv 1] [] := by first | (simp [entryFrame, mkF, argsToLocals, Value.category]; done) | rfl
set_option maxRecDepth 65536 in
set_option maxHeartbeats 40000000 in
theorem own_eo1 (l : Launch) (Z : State) (a0 : Array Value) (H : own_Wld Z a0) {cw : List Jvm.Cond} (a : Addr) (o : Addr) (oc : Int32) (st : Addr) (sc : Int32) (bt : Addr) (bc : Int32) (ch : Int64) (lst : Int32) (ro : Int32) (rs : Int32) (rb : Int32) (rch : Int64) (ob : Int64) (sb : Int64) (bb : Int64) (h0 : Heap) (O0 : Ext Z.heap h0) (OB : own_Ob Z h0 a o oc st sc bt bc ch lst ro rs rb rch ob sb bb) {ko : ClassId} (IA : own_IA Z h0 o ko) (hoc : ¬ oc < 0 ∧ oc < 4000) :
    Own.Con l Z consts_1 (⟨"com/example/scholiast/scholiast/XmlEvents", "ensureOps", "(I)V"⟩ : MethodName) prog_53_method_32_code 2 none cw ({ frames := 0, cells := 0, slots := 0, locals := 0 } : Room) #[(.ref a), (.int 1)] h0 (fun v h => Keep h0 h [] ∧ v = none) := by
  have hw := H.1
  have hW := fun (i : Nat) (w : Jvm.Cond) (e : tables_1[i]? = some w) => hw w (List.mem_of_getElem? e)
  have hCm := H.2.1
  have hSi := H.2.2.1
  have hEL := H.2.2.2
  have hWs : ∀ d ∈ StrChars.Road.words, d.before a0 Z = true := fun d hd => hw d (own_wbackV d hd)
  have hWl : ∀ d ∈ StrChars.Road.wordsLen, d.before a0 Z = true := fun d hd => hw d (own_wlenW d hd)
  have hSA : ∀ d ∈ Bundle.stringAtoms, d.before a0 Z = true := fun d hd => hw d (own_wSA d hd)
  refine Own.Con.of own_pn69553e hEL O0 ?_
  intro p e s m below meth c T0 G vm0 hx hby hml hret hnm hG hR S0
  have hz : ∀ L : Array Slot, L.size = 2 → L.size = c.maxLocals := fun L q => q.trans hml.symm
  rw [own_ef_own_eo1]
  show G T0 (mkF m 0 #[rv a, iv 1] [])
  obtain ⟨E_a68, F68_o, F68_oc, F68_st, F68_sc, F68_bt, F68_bc, F68_ch, F68_lst, F68_ro, F68_rs, F68_rb, F68_rch, F68_ob, F68_sb, F68_bb⟩ := id OB
  obtain ⟨ol, Ao, lo⟩ := id IA
  refine hG.st (fun t q => XS.aloadN S0.here hx rfl (hb hby own_d6_0) rfl rfl q) ?_
  show G T0 (mkF m 1 #[rv a, iv 1] [(.ref a)])
  refine Own.Sit.getF hG S0 hx (host := "") (Or.inl (hW 79 _ rfl)) Via.refl F68_oc rfl rfl (hb hby own_d6_1) (fun T69 S69 => ?_)
  refine hG.st (fun t q => XS.iloadN S69.here hx rfl (hb hby own_d6_4) rfl (XS.iadd S69.here hx rfl (hb hby own_d6_5) rfl (XS.aloadN S69.here hx rfl (hb hby own_d6_6) rfl rfl q))) ?_
  show G T69 (mkF m 7 #[rv a, iv 1] [(.ref a), (.int (oc + (1 : Int32)))])
  refine Own.Sit.getF hG S69 hx (host := "") (Or.inl (hW 62 _ rfl)) Via.refl F68_o rfl rfl (hb hby own_d6_7) (fun T70 S70 => ?_)
  show G T70 (mkF m 10 #[rv a, iv 1] [(.ref o), (.int (oc + (1 : Int32)))])
  refine Own.Sit.arraylength hG S70 hx Ao rfl rfl (hb hby own_d6_10) ?_
  show G T70 (mkF m 11 #[rv a, iv 1] [(.int 4096), (.int (oc + (1 : Int32)))])
  refine hG.st (fun t q => XS.icmpYes S70.here hx rfl (pc0 := 11) (pc' := 41) rfl (hb hby own_d6_11) rfl (flt (own_en hoc (by decide) : ¬ ((4096 : Int32) < (oc + (1 : Int32))))).2.2.2 (by decide) (by decide) q) ?_
  show G T70 (mkF m 41 #[rv a, iv 1] [])
  exact Own.Sit.ret0 hR S70 hx hret (hb hby own_d6_41) (by decide) (by decide) ⟨(Keep.refl _ _), rfl⟩
theorem own_ef_own_eo3 (m : MethodId) (a : Addr) : entryFrame m #[(.ref a), (.int 3)] 2 = mkF m 0 #[rv a, iv 3] [] := by first | (simp [entryFrame, mkF, argsToLocals, Value.category]; done) | rfl
set_option maxRecDepth 65536 in
set_option maxHeartbeats 40000000 in
theorem own_eo3 (l : Launch) (Z : State) (a0 : Array Value) (H : own_Wld Z a0) {cw : List Jvm.Cond} (a : Addr) (o : Addr) (oc : Int32) (st : Addr) (sc : Int32) (bt : Addr) (bc : Int32) (ch : Int64) (lst : Int32) (ro : Int32) (rs : Int32) (rb : Int32) (rch : Int64) (ob : Int64) (sb : Int64) (bb : Int64) (h0 : Heap) (O0 : Ext Z.heap h0) (OB : own_Ob Z h0 a o oc st sc bt bc ch lst ro rs rb rch ob sb bb) {ko : ClassId} (IA : own_IA Z h0 o ko) (hoc : ¬ oc < 0 ∧ oc < 4000) :
    Own.Con l Z consts_1 (⟨"com/example/scholiast/scholiast/XmlEvents", "ensureOps", "(I)V"⟩ : MethodName) prog_53_method_32_code 2 none cw ({ frames := 0, cells := 0, slots := 0, locals := 0 } : Room) #[(.ref a), (.int 3)] h0 (fun v h => Keep h0 h [] ∧ v = none) := by
  have hw := H.1
  have hW := fun (i : Nat) (w : Jvm.Cond) (e : tables_1[i]? = some w) => hw w (List.mem_of_getElem? e)
  have hCm := H.2.1
  have hSi := H.2.2.1
  have hEL := H.2.2.2
  have hWs : ∀ d ∈ StrChars.Road.words, d.before a0 Z = true := fun d hd => hw d (own_wbackV d hd)
  have hWl : ∀ d ∈ StrChars.Road.wordsLen, d.before a0 Z = true := fun d hd => hw d (own_wlenW d hd)
  have hSA : ∀ d ∈ Bundle.stringAtoms, d.before a0 Z = true := fun d hd => hw d (own_wSA d hd)
  refine Own.Con.of own_pn69553e hEL O0 ?_
  intro p e s m below meth c T0 G vm0 hx hby hml hret hnm hG hR S0
  have hz : ∀ L : Array Slot, L.size = 2 → L.size = c.maxLocals := fun L q => q.trans hml.symm
  rw [own_ef_own_eo3]
  show G T0 (mkF m 0 #[rv a, iv 3] [])
  obtain ⟨E_a71, F71_o, F71_oc, F71_st, F71_sc, F71_bt, F71_bc, F71_ch, F71_lst, F71_ro, F71_rs, F71_rb, F71_rch, F71_ob, F71_sb, F71_bb⟩ := id OB
  obtain ⟨ol, Ao, lo⟩ := id IA
  refine hG.st (fun t q => XS.aloadN S0.here hx rfl (hb hby own_d6_0) rfl rfl q) ?_
  show G T0 (mkF m 1 #[rv a, iv 3] [(.ref a)])
  refine Own.Sit.getF hG S0 hx (host := "") (Or.inl (hW 79 _ rfl)) Via.refl F71_oc rfl rfl (hb hby own_d6_1) (fun T72 S72 => ?_)
  refine hG.st (fun t q => XS.iloadN S72.here hx rfl (hb hby own_d6_4) rfl (XS.iadd S72.here hx rfl (hb hby own_d6_5) rfl (XS.aloadN S72.here hx rfl (hb hby own_d6_6) rfl rfl q))) ?_
  show G T72 (mkF m 7 #[rv a, iv 3] [(.ref a), (.int (oc + (3 : Int32)))])
  refine Own.Sit.getF hG S72 hx (host := "") (Or.inl (hW 62 _ rfl)) Via.refl F71_o rfl rfl (hb hby own_d6_7) (fun T73 S73 => ?_)
  show G T73 (mkF m 10 #[rv a, iv 3] [(.ref o), (.int (oc + (3 : Int32)))])
  refine Own.Sit.arraylength hG S73 hx Ao rfl rfl (hb hby own_d6_10) ?_
  show G T73 (mkF m 11 #[rv a, iv 3] [(.int 4096), (.int (oc + (3 : Int32)))])
  refine hG.st (fun t q => XS.icmpYes S73.here hx rfl (pc0 := 11) (pc' := 41) rfl (hb hby own_d6_11) rfl (flt (own_en hoc (by decide) : ¬ ((4096 : Int32) < (oc + (3 : Int32))))).2.2.2 (by decide) (by decide) q) ?_
  show G T73 (mkF m 41 #[rv a, iv 3] [])
  exact Own.Sit.ret0 hR S73 hx hret (hb hby own_d6_41) (by decide) (by decide) ⟨(Keep.refl _ _), rfl⟩
theorem own_pn3ac474 : plainFor (⟨"com/example/scholiast/scholiast/XmlEvents", "op", "(I)V"⟩ : MethodName) = true := by first | exact plainFor_of_name (by first | (simp [plainName, overriddenIn]; done) | decide +kernel) | decide +kernel
theorem own_pdc76b35 : parseMethodDescriptor "(I)V" = some ⟨[.int], none⟩ := by decide +kernel
theorem own_d7_0 : decode prog_53_method_28_code 0 = .ok (.aload_n 0, 1) := by decide +kernel
theorem own_d7_1 : decode prog_53_method_28_code 1 = .ok (.iconst 1, 1) := by decide +kernel
theorem own_d7_2 : decode prog_53_method_28_code 2 = .ok (.invokevirtual 31, 3) := by decide +kernel
theorem own_d7_5 : decode prog_53_method_28_code 5 = .ok (.aload_n 0, 1) := by decide +kernel
theorem own_d7_6 : decode prog_53_method_28_code 6 = .ok (.getfield 7, 3) := by decide +kernel
theorem own_d7_9 : decode prog_53_method_28_code 9 = .ok (.aload_n 0, 1) := by decide +kernel
theorem own_d7_10 : decode prog_53_method_28_code 10 = .ok (.dup, 1) := by decide +kernel
theorem own_d7_11 : decode prog_53_method_28_code 11 = .ok (.getfield 34, 3) := by decide +kernel
theorem own_d7_14 : decode prog_53_method_28_code 14 = .ok (.dup_x1, 1) := by decide +kernel
theorem own_d7_15 : decode prog_53_method_28_code 15 = .ok (.iconst 1, 1) := by decide +kernel
theorem own_d7_16 : decode prog_53_method_28_code 16 = .ok (.iadd, 1) := by decide +kernel
theorem own_d7_17 : decode prog_53_method_28_code 17 = .ok (.putfield 34, 3) := by decide +kernel
theorem own_d7_20 : decode prog_53_method_28_code 20 = .ok (.iload_n 1, 1) := by decide +kernel
theorem own_d7_21 : decode prog_53_method_28_code 21 = .ok (.iastore, 1) := by decide +kernel
theorem own_d7_22 : decode prog_53_method_28_code 22 = .ok (.return_, 1) := by decide +kernel
theorem own_ef_own_op (m : MethodId) (a : Addr) (zz : Int32) : entryFrame m #[(.ref a), (.int zz)] 2 = mkF m 0 #[rv a, iv zz] [] := by first | (simp [entryFrame, mkF, argsToLocals, Value.category]; done) | rfl
set_option maxRecDepth 65536 in
set_option maxHeartbeats 40000000 in
theorem own_op (l : Launch) (Z : State) (a0 : Array Value) (H : own_Wld Z a0) {cw : List Jvm.Cond} (a : Addr) (zz : Int32) (o : Addr) (oc : Int32) (st : Addr) (sc : Int32) (bt : Addr) (bc : Int32) (ch : Int64) (lst : Int32) (ro : Int32) (rs : Int32) (rb : Int32) (rch : Int64) (ob : Int64) (sb : Int64) (bb : Int64) (h0 : Heap) (O0 : Ext Z.heap h0) (OB : own_Ob Z h0 a o oc st sc bt bc ch lst ro rs rb rch ob sb bb) {ko : ClassId} (IA : own_IA Z h0 o ko) (hoc : ¬ oc < 0 ∧ oc < 4000) (g_a : Z.heap.size ≤ a) (g_o : Z.heap.size ≤ o) :
    Own.Con l Z consts_1 (⟨"com/example/scholiast/scholiast/XmlEvents", "op", "(I)V"⟩ : MethodName) prog_53_method_28_code 2 none cw ({ frames := 1, cells := 0, slots := 0, locals := 13 } : Room) #[(.ref a), (.int zz)] h0 (fun v h => Keep h0 h [a, o] ∧ v = none ∧ own_Ob Z h a o (oc + 1) st sc bt bc ch lst ro rs rb rch ob sb bb ∧ own_IA Z h o ko) := by
  have hw := H.1
  have hW := fun (i : Nat) (w : Jvm.Cond) (e : tables_1[i]? = some w) => hw w (List.mem_of_getElem? e)
  have hCm := H.2.1
  have hSi := H.2.2.1
  have hEL := H.2.2.2
  have hWs : ∀ d ∈ StrChars.Road.words, d.before a0 Z = true := fun d hd => hw d (own_wbackV d hd)
  have hWl : ∀ d ∈ StrChars.Road.wordsLen, d.before a0 Z = true := fun d hd => hw d (own_wlenW d hd)
  have hSA : ∀ d ∈ Bundle.stringAtoms, d.before a0 Z = true := fun d hd => hw d (own_wSA d hd)
  refine Own.Con.of own_pn3ac474 hEL O0 ?_
  intro p e s m below meth c T0 G vm0 hx hby hml hret hnm hG hR S0
  have hz : ∀ L : Array Slot, L.size = 2 → L.size = c.maxLocals := fun L q => q.trans hml.symm
  rw [own_ef_own_op]
  show G T0 (mkF m 0 #[rv a, iv zz] [])
  obtain ⟨E_a74, F74_o, F74_oc, F74_st, F74_sc, F74_bt, F74_bc, F74_ch, F74_lst, F74_ro, F74_rs, F74_rb, F74_rch, F74_ob, F74_sb, F74_bb⟩ := id OB
  obtain ⟨ol, Ao, lo⟩ := id IA
  refine hG.st (fun t q => XS.aloadN S0.here hx rfl (hb hby own_d7_0) rfl rfl (XS.iconst S0.here hx rfl (hb hby own_d7_1) q)) ?_
  show G T0 (mkF m 2 #[rv a, iv zz] [(.int 1), (.ref a)])
  have OB75 : own_Ob Z h0 a o oc st sc bt bc ch lst ro rs rb rch ob sb bb := ⟨E_a74, F74_o, F74_oc, F74_st, F74_sc, F74_bt, F74_bc, F74_ch, F74_lst, F74_ro, F74_rs, F74_rb, F74_rch, F74_ob, F74_sb, F74_bb⟩
  refine Own.Sit.callP hG S0 hx hEL (as := [(.int 1)]) (hW 75 _ rfl) (hW 77 _ rfl) (hW 55 _ rfl) (hW 76 _ rfl) (hW 56 _ rfl) (hW 78 _ rfl) (by decide) E_a74 (own_eo1 l Z a0 H a o oc st sc bt bc ch lst ro rs rb rch ob sb bb h0 S0.old OB75 ⟨_, Ao, lo⟩ hoc) own_pdc76b35 rfl rfl (hz _ rfl) (rest := []) rfl (W := 0) (Own.hw0 rfl rfl) (hb hby own_d7_2) (by decide) (by decide) (by decide) (by decide) (fun v76 vm76 T76 h76 S76 C76 q76 => ?_)
  obtain ⟨K76, rfl⟩ := q76
  have J76 : Own.Stp Z consts_1 vm0 h0 vm76 h76 [] := ⟨K76, C76⟩
  refine hG.st (fun t q => XS.aloadN S76.here hx rfl (hb hby own_d7_5) rfl rfl q) ?_
  show G T76 (mkF m 6 #[rv a, iv zz] [(.ref a)])
  have F77 := J76.fld F74_o nin0
  refine Own.Sit.getF hG S76 hx (host := "") (Or.inl (hW 62 _ rfl)) Via.refl F77 rfl rfl (hb hby own_d7_6) (fun T78 S78 => ?_)
  refine hG.st (fun t q => XS.aloadN S78.here hx rfl (hb hby own_d7_9) rfl rfl (XS.dup S78.here hx rfl (hb hby own_d7_10) rfl rfl q)) ?_
  show G T78 (mkF m 11 #[rv a, iv zz] [(.ref a), (.ref a), (.ref o)])
  have F79 := J76.fld F74_oc nin0
  refine Own.Sit.getF hG S78 hx (host := "") (Or.inl (hW 79 _ rfl)) Via.refl F79 rfl rfl (hb hby own_d7_11) (fun T80 S80 => ?_)
  refine hG.st (fun t q => XS.dupX1 S80.here hx rfl (hb hby own_d7_14) rfl rfl rfl (XS.iconst S80.here hx rfl (hb hby own_d7_15) (XS.iadd S80.here hx rfl (hb hby own_d7_16) rfl q))) ?_
  show G T80 (mkF m 17 #[rv a, iv zz] [(.int (oc + (1 : Int32))), (.ref a), (.int oc), (.ref o)])
  have E81 := J76.exa E_a74
  have F83 := J76.fld F74_st nin0
  have F84 := J76.fld F74_sc nin0
  have F85 := J76.fld F74_bt nin0
  have F86 := J76.fld F74_bc nin0
  have F87 := J76.fld F74_ch nin0
  have F88 := J76.fld F74_lst nin0
  have F89 := J76.fld F74_ro nin0
  have F90 := J76.fld F74_rs nin0
  have F91 := J76.fld F74_rb nin0
  have F92 := J76.fld F74_rch nin0
  have F93 := J76.fld F74_ob nin0
  have F94 := J76.fld F74_sb nin0
  have F95 := J76.fld F74_bb nin0
  refine Own.Sit.putF hG S80 hx (host := "") (Or.inl (hW 79 _ rfl)) Via.refl F79 E81 (Or.inl (hW 80 _ rfl)) (hW 55 _ rfl) (ty := .int) (by decide) rfl rfl g_a (Safe.exa S80.warm.alike E81 (by decide) (by decide)) rfl rfl (hb hby own_d7_17) (fun T82 h82 S82 J82 W82 F82 => ?_)
  have F96 := Fld.other W82 F77 (Or.inr (slot_ne (Or.inl (hW 63 _ rfl)) (Or.inl (hW 80 _ rfl)) (by decide) (t := (.array .int)) (by decide) (t' := .int) (by decide)))
  have F97 := Fld.other W82 F83 (Or.inr (slot_ne (Or.inl (hW 67 _ rfl)) (Or.inl (hW 80 _ rfl)) (by decide) (t := (.array (.object "java/lang/String"))) (by decide) (t' := .int) (by decide)))
  have F98 := Fld.other W82 F84 (Or.inr (slot_ne (Or.inl (hW 88 _ rfl)) (Or.inl (hW 80 _ rfl)) (by decide) (t := .int) (by decide) (t' := .int) (by decide)))
  have F99 := Fld.other W82 F85 (Or.inr (slot_ne (Or.inl (hW 69 _ rfl)) (Or.inl (hW 80 _ rfl)) (by decide) (t := (.array .byte)) (by decide) (t' := .int) (by decide)))
  have F100 := Fld.other W82 F86 (Or.inr (slot_ne (Or.inl (hW 122 _ rfl)) (Or.inl (hW 80 _ rfl)) (by decide) (t := .int) (by decide) (t' := .int) (by decide)))
  have F101 := Fld.other W82 F87 (Or.inr (slot_ne (Or.inl (hW 90 _ rfl)) (Or.inl (hW 80 _ rfl)) (by decide) (t := .long) (by decide) (t' := .int) (by decide)))
  have F102 := Fld.other W82 F88 (Or.inr (slot_ne (Or.inl (hW 82 _ rfl)) (Or.inl (hW 80 _ rfl)) (by decide) (t := .int) (by decide) (t' := .int) (by decide)))
  have F103 := Fld.other W82 F89 (Or.inr (slot_ne (Or.inl (hW 146 _ rfl)) (Or.inl (hW 80 _ rfl)) (by decide) (t := .int) (by decide) (t' := .int) (by decide)))
  have F104 := Fld.other W82 F90 (Or.inr (slot_ne (Or.inl (hW 142 _ rfl)) (Or.inl (hW 80 _ rfl)) (by decide) (t := .int) (by decide) (t' := .int) (by decide)))
  have F105 := Fld.other W82 F91 (Or.inr (slot_ne (Or.inl (hW 148 _ rfl)) (Or.inl (hW 80 _ rfl)) (by decide) (t := .int) (by decide) (t' := .int) (by decide)))
  have F106 := Fld.other W82 F92 (Or.inr (slot_ne (Or.inl (hW 144 _ rfl)) (Or.inl (hW 80 _ rfl)) (by decide) (t := .long) (by decide) (t' := .int) (by decide)))
  have F107 := Fld.other W82 F93 (Or.inr (slot_ne (Or.inl (hW 163 _ rfl)) (Or.inl (hW 80 _ rfl)) (by decide) (t := .long) (by decide) (t' := .int) (by decide)))
  have F108 := Fld.other W82 F94 (Or.inr (slot_ne (Or.inl (hW 165 _ rfl)) (Or.inl (hW 80 _ rfl)) (by decide) (t := .long) (by decide) (t' := .int) (by decide)))
  have F109 := Fld.other W82 F95 (Or.inr (slot_ne (Or.inl (hW 167 _ rfl)) (Or.inl (hW 80 _ rfl)) (by decide) (t := .long) (by decide) (t' := .int) (by decide)))
  refine hG.st (fun t q => XS.iloadN S82.here hx rfl (hb hby own_d7_20) rfl q) ?_
  show G T82 (mkF m 21 #[rv a, iv zz] [(.int zz), (.int oc), (.ref o)])
  have J110 : Own.Stp Z consts_1 vm0 h0 vm76 h82 [a] := Own.Stp.trans J76 J82 (all0) (allS (Or.inl (List.mem_of_getElem? (i := 0) rfl)) all0)
  have V111 := J110.arv Ao (ninS (Ne.symm (Exa.neArv E_a74 Ao (hW 55 _ rfl))) nin0)
  refine Own.Sit.stI hG S82 hx V111 g_o (own_up hoc) oc.toNatClampNeg rfl (by rw [lo]; exact own_cl (own_up hoc)) rfl rfl (hb hby own_d7_21) (fun T112 h112 S112 J112 V112 => ?_)
  obtain ⟨ol112, Ao112, lo112⟩ : own_IA Z h112 o ko := ⟨_, V112, by rw [List.length_set]; exact lo⟩
  have J113 : Own.Stp Z consts_1 vm0 h0 vm76 h112 [a, o] := Own.Stp.trans J110 J112 (allS (List.mem_of_getElem? (i := 0) rfl) (all0)) (allS (Or.inl (List.mem_of_getElem? (i := 1) rfl)) all0)
  have J114 : Own.Stp Z consts_1 vm76 h76 vm76 h112 [a, o] := Own.Stp.trans J82 J112 (allS (List.mem_of_getElem? (i := 0) rfl) (all0)) (allS (Or.inl (List.mem_of_getElem? (i := 1) rfl)) all0)
  have E115 := J114.exa E81
  have F116 := J112.fld F96 (ninS (Exa.neArv (J113.exa E_a74) Ao112 (hW 55 _ rfl)) nin0)
  have F117 := J112.fld F82 (ninS (Exa.neArv (J113.exa E_a74) Ao112 (hW 55 _ rfl)) nin0)
  have F118 := J112.fld F97 (ninS (Exa.neArv (J113.exa E_a74) Ao112 (hW 55 _ rfl)) nin0)
  have F119 := J112.fld F98 (ninS (Exa.neArv (J113.exa E_a74) Ao112 (hW 55 _ rfl)) nin0)
  have F120 := J112.fld F99 (ninS (Exa.neArv (J113.exa E_a74) Ao112 (hW 55 _ rfl)) nin0)
  have F121 := J112.fld F100 (ninS (Exa.neArv (J113.exa E_a74) Ao112 (hW 55 _ rfl)) nin0)
  have F122 := J112.fld F101 (ninS (Exa.neArv (J113.exa E_a74) Ao112 (hW 55 _ rfl)) nin0)
  have F123 := J112.fld F102 (ninS (Exa.neArv (J113.exa E_a74) Ao112 (hW 55 _ rfl)) nin0)
  have F124 := J112.fld F103 (ninS (Exa.neArv (J113.exa E_a74) Ao112 (hW 55 _ rfl)) nin0)
  have F125 := J112.fld F104 (ninS (Exa.neArv (J113.exa E_a74) Ao112 (hW 55 _ rfl)) nin0)
  have F126 := J112.fld F105 (ninS (Exa.neArv (J113.exa E_a74) Ao112 (hW 55 _ rfl)) nin0)
  have F127 := J112.fld F106 (ninS (Exa.neArv (J113.exa E_a74) Ao112 (hW 55 _ rfl)) nin0)
  have F128 := J112.fld F107 (ninS (Exa.neArv (J113.exa E_a74) Ao112 (hW 55 _ rfl)) nin0)
  have F129 := J112.fld F108 (ninS (Exa.neArv (J113.exa E_a74) Ao112 (hW 55 _ rfl)) nin0)
  have F130 := J112.fld F109 (ninS (Exa.neArv (J113.exa E_a74) Ao112 (hW 55 _ rfl)) nin0)
  show G T112 (mkF m 22 #[rv a, iv zz] [])
  exact Own.Sit.ret0 hR S112 hx hret (hb hby own_d7_22) (by decide) (by decide) ⟨J113.1, rfl, ⟨E115, F116, F117, F118, F119, F120, F121, F122, F123, F124, F125, F126, F127, F128, F129, F130⟩, ⟨_, Ao112, lo112⟩⟩
theorem own_pncd0625 : plainFor (⟨"com/example/scholiast/scholiast/XmlEvents", "length", "(Ljava/lang/String;)I"⟩ : MethodName) = true := by first | exact plainFor_of_name (by first | (simp [plainName, overriddenIn]; done) | decide +kernel) | decide +kernel
theorem own_d8_0 : decode prog_53_method_31_code 0 = .ok (.aload_n 0, 1) := by decide +kernel
theorem own_d8_1 : decode prog_53_method_31_code 1 = .ok (.ifnonnull 7, 3) := by decide +kernel
theorem own_d8_4 : decode prog_53_method_31_code 4 = .ok (.iconst 0, 1) := by decide +kernel
theorem own_d8_5 : decode prog_53_method_31_code 5 = .ok (.goto 7, 3) := by decide +kernel
theorem own_d8_12 : decode prog_53_method_31_code 12 = .ok (.ireturn, 1) := by decide +kernel
theorem own_ef_own_lenN (m : MethodId)  : entryFrame m #[.null] 1 = mkF m 0 #[.val .null] [] := by first | (simp [entryFrame, mkF, argsToLocals, Value.category]; done) | rfl
set_option maxRecDepth 65536 in
set_option maxHeartbeats 40000000 in
theorem own_lenN (l : Launch) (Z : State) (a0 : Array Value) (H : own_Wld Z a0) {cw : List Jvm.Cond}  (h0 : Heap) (O0 : Ext Z.heap h0) :
    Own.Con l Z consts_1 (⟨"com/example/scholiast/scholiast/XmlEvents", "length", "(Ljava/lang/String;)I"⟩ : MethodName) prog_53_method_31_code 1 (some .int) cw ({ frames := 2, cells := 0, slots := 0, locals := 25 } : Room) #[.null] h0 (fun v h => Keep h0 h [] ∧ v = some (.int 0)) := by
  have hw := H.1
  have hW := fun (i : Nat) (w : Jvm.Cond) (e : tables_1[i]? = some w) => hw w (List.mem_of_getElem? e)
  have hCm := H.2.1
  have hSi := H.2.2.1
  have hEL := H.2.2.2
  have hWs : ∀ d ∈ StrChars.Road.words, d.before a0 Z = true := fun d hd => hw d (own_wbackV d hd)
  have hWl : ∀ d ∈ StrChars.Road.wordsLen, d.before a0 Z = true := fun d hd => hw d (own_wlenW d hd)
  have hSA : ∀ d ∈ Bundle.stringAtoms, d.before a0 Z = true := fun d hd => hw d (own_wSA d hd)
  refine Own.Con.of own_pncd0625 hEL O0 ?_
  intro p e s m below meth c T0 G vm0 hx hby hml hret hnm hG hR S0
  have hz : ∀ L : Array Slot, L.size = 1 → L.size = c.maxLocals := fun L q => q.trans hml.symm
  rw [own_ef_own_lenN]
  show G T0 (mkF m 0 #[.val .null] [])
  refine hG.st (fun t q => XS.aloadN S0.here hx rfl (hb hby own_d8_0) rfl rfl (XS.ifnonnullNo S0.here hx rfl (hb hby own_d8_1) rfl (XS.iconst S0.here hx rfl (hb hby own_d8_4) (XS.goto S0.here hx rfl (pc0 := 5) (pc' := 12) rfl (hb hby own_d8_5) (by decide) (by decide) q)))) ?_
  show G T0 (mkF m 12 #[.val .null] [(.int 0)])
  exact Own.Sit.retO hR S0 hx hret rfl (Or.inl ⟨rfl, Or.inl rfl, _, rfl⟩) (hb hby own_d8_12) (by decide) (by decide) ⟨(Keep.refl _ _), rfl⟩
theorem own_d8_8 : decode prog_53_method_31_code 8 = .ok (.aload_n 0, 1) := by decide +kernel
theorem own_d8_9 : decode prog_53_method_31_code 9 = .ok (.invokevirtual 106, 3) := by decide +kernel
theorem own_ef_own_lenS (m : MethodId) (x : Addr) : entryFrame m #[(.ref x)] 1 = mkF m 0 #[rv x] [] := by first | (simp [entryFrame, mkF, argsToLocals, Value.category]; done) | rfl
set_option maxRecDepth 65536 in
set_option maxHeartbeats 40000000 in
theorem own_lenS (l : Launch) (Z : State) (a0 : Array Value) (H : own_Wld Z a0) {cw : List Jvm.Cond} (x : Addr) (t : Addr) (cs : List Int32) (h0 : Heap) (O0 : Ext Z.heap h0) (St_x : Own.Str Z h0 x t cs) :
    Own.Con l Z consts_1 (⟨"com/example/scholiast/scholiast/XmlEvents", "length", "(Ljava/lang/String;)I"⟩ : MethodName) prog_53_method_31_code 1 (some .int) cw ({ frames := 2, cells := 0, slots := 0, locals := 25 } : Room) #[(.ref x)] h0 (fun v h => Keep h0 h [] ∧ v = some (.int (Int32.ofNat cs.length))) := by
  have hw := H.1
  have hW := fun (i : Nat) (w : Jvm.Cond) (e : tables_1[i]? = some w) => hw w (List.mem_of_getElem? e)
  have hCm := H.2.1
  have hSi := H.2.2.1
  have hEL := H.2.2.2
  have hWs : ∀ d ∈ StrChars.Road.words, d.before a0 Z = true := fun d hd => hw d (own_wbackV d hd)
  have hWl : ∀ d ∈ StrChars.Road.wordsLen, d.before a0 Z = true := fun d hd => hw d (own_wlenW d hd)
  have hSA : ∀ d ∈ Bundle.stringAtoms, d.before a0 Z = true := fun d hd => hw d (own_wSA d hd)
  refine Own.Con.of own_pncd0625 hEL O0 ?_
  intro p e s m below meth c T0 G vm0 hx hby hml hret hnm hG hR S0
  have hz : ∀ L : Array Slot, L.size = 1 → L.size = c.maxLocals := fun L q => q.trans hml.symm
  rw [own_ef_own_lenS]
  show G T0 (mkF m 0 #[rv x] [])
  refine hG.st (fun t q => XS.aloadN S0.here hx rfl (hb hby own_d8_0) rfl rfl (XS.ifnonnullYes S0.here hx rfl (pc0 := 1) (pc' := 8) rfl (hb hby own_d8_1) rfl (by decide) (by decide) (XS.aloadN S0.here hx rfl (hb hby own_d8_8) rfl rfl q))) ?_
  show G T0 (mkF m 9 #[rv x] [(.ref x)])
  refine Own.Sit.strLen hG S0 hx hWl hCm (hW 7 _ rfl) (hW 94 _ rfl) (hW 95 _ rfl) (hW 97 _ rfl) (hW 96 _ rfl) St_x rfl (hz _ rfl) (rest := []) rfl (W := 0) (Own.hw0 rfl rfl) (hb hby own_d8_9) (by decide) (by decide) (by decide) (by decide) (fun T131 S131 => ?_)
  show G T131 (mkF m 12 #[rv x] [(.int (Int32.ofNat (cs).length))])
  exact Own.Sit.retO hR S131 hx hret rfl (Or.inl ⟨rfl, Or.inl rfl, _, rfl⟩) (hb hby own_d8_12) (by decide) (by decide) ⟨(Keep.refl _ _), rfl⟩
theorem own_len (l : Launch) (Z : State) (a0 : Array Value) (H : own_Wld Z a0) {cw : List Jvm.Cond} (v : Value) (n : Int32) (B : Nat) (h0 : Heap) (O0 : Ext Z.heap h0) (N : own_NS Z h0 B v n) :
    Own.Con l Z consts_1 (⟨"com/example/scholiast/scholiast/XmlEvents", "length", "(Ljava/lang/String;)I"⟩ : MethodName) prog_53_method_31_code 1 (some .int) cw ({ frames := 2, cells := 0, slots := 0, locals := 25 } : Room) #[v] h0 (fun r h => Keep h0 h [] ∧ r = some (.int n)) := by
  rcases N with ⟨rfl, rfl⟩ | ⟨x, t, cs, rfl, S, rfl, -⟩
  · exact own_lenN l Z a0 H h0 O0
  · exact own_lenS l Z a0 H x t cs h0 O0 S
theorem own_pn328bdb : plainFor (⟨"com/example/scholiast/scholiast/XmlEvents", "string", "(Ljava/lang/String;)V"⟩ : MethodName) = true := by first | exact plainFor_of_name (by first | (simp [plainName, overriddenIn]; done) | decide +kernel) | decide +kernel
theorem own_pdb70cb2 : parseMethodDescriptor "(Ljava/lang/String;)I" = some ⟨[(.object "java/lang/String")], some .int⟩ := by decide +kernel
theorem own_d9_0 : decode prog_53_method_30_code 0 = .ok (.aload_n 0, 1) := by decide +kernel
theorem own_d9_1 : decode prog_53_method_30_code 1 = .ok (.getfield 67, 3) := by decide +kernel
theorem own_d9_4 : decode prog_53_method_30_code 4 = .ok (.aload_n 0, 1) := by decide +kernel
theorem own_d9_5 : decode prog_53_method_30_code 5 = .ok (.getfield 15, 3) := by decide +kernel
theorem own_d9_8 : decode prog_53_method_30_code 8 = .ok (.arraylength, 1) := by decide +kernel
theorem own_d9_9 : decode prog_53_method_30_code 9 = .ok (.if_icmp .ne 23, 3) := by decide +kernel
theorem own_d9_32 : decode prog_53_method_30_code 32 = .ok (.aload_n 0, 1) := by decide +kernel
theorem own_d9_33 : decode prog_53_method_30_code 33 = .ok (.getfield 15, 3) := by decide +kernel
theorem own_d9_36 : decode prog_53_method_30_code 36 = .ok (.aload_n 0, 1) := by decide +kernel
theorem own_d9_37 : decode prog_53_method_30_code 37 = .ok (.dup, 1) := by decide +kernel
theorem own_d9_38 : decode prog_53_method_30_code 38 = .ok (.getfield 67, 3) := by decide +kernel
theorem own_d9_41 : decode prog_53_method_30_code 41 = .ok (.dup_x1, 1) := by decide +kernel
theorem own_d9_42 : decode prog_53_method_30_code 42 = .ok (.iconst 1, 1) := by decide +kernel
theorem own_d9_43 : decode prog_53_method_30_code 43 = .ok (.iadd, 1) := by decide +kernel
theorem own_d9_44 : decode prog_53_method_30_code 44 = .ok (.putfield 67, 3) := by decide +kernel
theorem own_d9_47 : decode prog_53_method_30_code 47 = .ok (.aload_n 1, 1) := by decide +kernel
theorem own_d9_48 : decode prog_53_method_30_code 48 = .ok (.aastore, 1) := by decide +kernel
theorem own_d9_49 : decode prog_53_method_30_code 49 = .ok (.aload_n 0, 1) := by decide +kernel
theorem own_d9_50 : decode prog_53_method_30_code 50 = .ok (.dup, 1) := by decide +kernel
theorem own_d9_51 : decode prog_53_method_30_code 51 = .ok (.getfield 58, 3) := by decide +kernel
theorem own_d9_54 : decode prog_53_method_30_code 54 = .ok (.aload_n 1, 1) := by decide +kernel
theorem own_d9_55 : decode prog_53_method_30_code 55 = .ok (.invokestatic 95, 3) := by decide +kernel
theorem own_d9_58 : decode prog_53_method_30_code 58 = .ok (.i2l, 1) := by decide +kernel
theorem own_d9_59 : decode prog_53_method_30_code 59 = .ok (.ladd, 1) := by decide +kernel
theorem own_d9_60 : decode prog_53_method_30_code 60 = .ok (.putfield 58, 3) := by decide +kernel
theorem own_d9_63 : decode prog_53_method_30_code 63 = .ok (.return_, 1) := by decide +kernel
theorem own_ef_own_string (m : MethodId) (a : Addr) (sv : Value) (h_sv : sv.isRef = true) : entryFrame m #[(.ref a), sv] 2 = mkF m 0 #[rv a, .val sv] [] := by
  all_goals rcases ref_cases h_sv with rfl | ⟨_, rfl⟩
  all_goals first | (simp [entryFrame, mkF, argsToLocals, Value.category]; done) | rfl
set_option maxRecDepth 65536 in
set_option maxHeartbeats 40000000 in
theorem own_string (l : Launch) (Z : State) (a0 : Array Value) (H : own_Wld Z a0) {cw : List Jvm.Cond} (a : Addr) (sv : Value) (o : Addr) (oc : Int32) (st : Addr) (sc : Int32) (bt : Addr) (bc : Int32) (ch : Int64) (lst : Int32) (ro : Int32) (rs : Int32) (rb : Int32) (rch : Int64) (ob : Int64) (sb : Int64) (bb : Int64) (sn : Int32) (B : Nat) (h0 : Heap) (O0 : Ext Z.heap h0) (OB : own_Ob Z h0 a o oc st sc bt bc ch lst ro rs rb rch ob sb bb) {ks : ClassId} {sl : List Value} (SA : own_SA Z h0 st ks sl) (hsc : sc.toNatClampNeg = sl.length) (hrs : ¬ sc < 0 ∧ sc < 4000) (N : own_NS Z h0 B sv sn) (ba : B ≤ a) (bs : B ≤ st) (g_a : Z.heap.size ≤ a) (g_s : Z.heap.size ≤ st) :
    Own.Con l Z consts_1 (⟨"com/example/scholiast/scholiast/XmlEvents", "string", "(Ljava/lang/String;)V"⟩ : MethodName) prog_53_method_30_code 2 none cw ({ frames := 3, cells := 0, slots := 0, locals := 40 } : Room) #[(.ref a), sv] h0 (fun v h => Keep h0 h [a, st] ∧ v = none ∧ own_Ob Z h a o oc st (sc + 1) bt bc (ch + sn.toInt64) lst ro rs rb rch ob sb bb ∧ own_SA Z h st ks (sl ++ [sv])) := by
  have hw := H.1
  have hW := fun (i : Nat) (w : Jvm.Cond) (e : tables_1[i]? = some w) => hw w (List.mem_of_getElem? e)
  have hCm := H.2.1
  have hSi := H.2.2.1
  have hEL := H.2.2.2
  have hWs : ∀ d ∈ StrChars.Road.words, d.before a0 Z = true := fun d hd => hw d (own_wbackV d hd)
  have hWl : ∀ d ∈ StrChars.Road.wordsLen, d.before a0 Z = true := fun d hd => hw d (own_wlenW d hd)
  have hSA : ∀ d ∈ Bundle.stringAtoms, d.before a0 Z = true := fun d hd => hw d (own_wSA d hd)
  refine Own.Con.of own_pn328bdb hEL O0 ?_
  intro p e s m below meth c T0 G vm0 hx hby hml hret hnm hG hR S0
  have hz : ∀ L : Array Slot, L.size = 2 → L.size = c.maxLocals := fun L q => q.trans hml.symm
  rw [own_ef_own_string _ _ _ (own_NS.ref N)]
  show G T0 (mkF m 0 #[rv a, .val sv] [])
  obtain ⟨E_a132, F132_o, F132_oc, F132_st, F132_sc, F132_bt, F132_bc, F132_ch, F132_lst, F132_ro, F132_rs, F132_rb, F132_rch, F132_ob, F132_sb, F132_bb⟩ := id OB
  obtain ⟨As, hOv⟩ := id SA
  refine hG.st (fun t q => XS.aloadN S0.here hx rfl (hb hby own_d9_0) rfl rfl q) ?_
  show G T0 (mkF m 1 #[rv a, .val sv] [(.ref a)])
  refine Own.Sit.getF hG S0 hx (host := "") (Or.inl (hW 87 _ rfl)) Via.refl F132_sc rfl rfl (hb hby own_d9_1) (fun T133 S133 => ?_)
  refine hG.st (fun t q => XS.aloadN S133.here hx rfl (hb hby own_d9_4) rfl rfl q) ?_
  show G T133 (mkF m 5 #[rv a, .val sv] [(.ref a), (.int sc)])
  refine Own.Sit.getF hG S133 hx (host := "") (Or.inl (hW 66 _ rfl)) Via.refl F132_st rfl rfl (hb hby own_d9_5) (fun T134 S134 => ?_)
  show G T134 (mkF m 8 #[rv a, .val sv] [(.ref st), (.int sc)])
  refine Own.Sit.arraylength hG S134 hx As rfl rfl (hb hby own_d9_8) ?_
  show G T134 (mkF m 9 #[rv a, .val sv] [(.int 4096), (.int sc)])
  refine hG.st (fun t q => XS.icmpYes S134.here hx rfl (pc0 := 9) (pc' := 32) rfl (hb hby own_d9_9) rfl (feq (own_nf hrs : ¬ (sc = (4096 : Int32)))).2 (by decide) (by decide) (XS.aloadN S134.here hx rfl (hb hby own_d9_32) rfl rfl q)) ?_
  show G T134 (mkF m 33 #[rv a, .val sv] [(.ref a)])
  refine Own.Sit.getF hG S134 hx (host := "") (Or.inl (hW 66 _ rfl)) Via.refl F132_st rfl rfl (hb hby own_d9_33) (fun T135 S135 => ?_)
  refine hG.st (fun t q => XS.aloadN S135.here hx rfl (hb hby own_d9_36) rfl rfl (XS.dup S135.here hx rfl (hb hby own_d9_37) rfl rfl q)) ?_
  show G T135 (mkF m 38 #[rv a, .val sv] [(.ref a), (.ref a), (.ref st)])
  refine Own.Sit.getF hG S135 hx (host := "") (Or.inl (hW 87 _ rfl)) Via.refl F132_sc rfl rfl (hb hby own_d9_38) (fun T136 S136 => ?_)
  refine hG.st (fun t q => XS.dupX1 S136.here hx rfl (hb hby own_d9_41) rfl rfl rfl (XS.iconst S136.here hx rfl (hb hby own_d9_42) (XS.iadd S136.here hx rfl (hb hby own_d9_43) rfl q))) ?_
  show G T136 (mkF m 44 #[rv a, .val sv] [(.int (sc + (1 : Int32))), (.ref a), (.int sc), (.ref st)])
  refine Own.Sit.putF hG S136 hx (host := "") (Or.inl (hW 87 _ rfl)) Via.refl F132_sc E_a132 (Or.inl (hW 88 _ rfl)) (hW 55 _ rfl) (ty := .int) (by decide) rfl rfl g_a (Safe.exa S136.warm.alike E_a132 (by decide) (by decide)) rfl rfl (hb hby own_d9_44) (fun T137 h137 S137 J137 W137 F137 => ?_)
  have F138 := Fld.other W137 F132_o (Or.inr (slot_ne (Or.inl (hW 63 _ rfl)) (Or.inl (hW 88 _ rfl)) (by decide) (t := (.array .int)) (by decide) (t' := .int) (by decide)))
  have F139 := Fld.other W137 F132_oc (Or.inr (slot_ne (Or.inl (hW 80 _ rfl)) (Or.inl (hW 88 _ rfl)) (by decide) (t := .int) (by decide) (t' := .int) (by decide)))
  have F140 := Fld.other W137 F132_st (Or.inr (slot_ne (Or.inl (hW 67 _ rfl)) (Or.inl (hW 88 _ rfl)) (by decide) (t := (.array (.object "java/lang/String"))) (by decide) (t' := .int) (by decide)))
  have F141 := Fld.other W137 F132_bt (Or.inr (slot_ne (Or.inl (hW 69 _ rfl)) (Or.inl (hW 88 _ rfl)) (by decide) (t := (.array .byte)) (by decide) (t' := .int) (by decide)))
  have F142 := Fld.other W137 F132_bc (Or.inr (slot_ne (Or.inl (hW 122 _ rfl)) (Or.inl (hW 88 _ rfl)) (by decide) (t := .int) (by decide) (t' := .int) (by decide)))
  have F143 := Fld.other W137 F132_ch (Or.inr (slot_ne (Or.inl (hW 90 _ rfl)) (Or.inl (hW 88 _ rfl)) (by decide) (t := .long) (by decide) (t' := .int) (by decide)))
  have F144 := Fld.other W137 F132_lst (Or.inr (slot_ne (Or.inl (hW 82 _ rfl)) (Or.inl (hW 88 _ rfl)) (by decide) (t := .int) (by decide) (t' := .int) (by decide)))
  have F145 := Fld.other W137 F132_ro (Or.inr (slot_ne (Or.inl (hW 146 _ rfl)) (Or.inl (hW 88 _ rfl)) (by decide) (t := .int) (by decide) (t' := .int) (by decide)))
  have F146 := Fld.other W137 F132_rs (Or.inr (slot_ne (Or.inl (hW 142 _ rfl)) (Or.inl (hW 88 _ rfl)) (by decide) (t := .int) (by decide) (t' := .int) (by decide)))
  have F147 := Fld.other W137 F132_rb (Or.inr (slot_ne (Or.inl (hW 148 _ rfl)) (Or.inl (hW 88 _ rfl)) (by decide) (t := .int) (by decide) (t' := .int) (by decide)))
  have F148 := Fld.other W137 F132_rch (Or.inr (slot_ne (Or.inl (hW 144 _ rfl)) (Or.inl (hW 88 _ rfl)) (by decide) (t := .long) (by decide) (t' := .int) (by decide)))
  have F149 := Fld.other W137 F132_ob (Or.inr (slot_ne (Or.inl (hW 163 _ rfl)) (Or.inl (hW 88 _ rfl)) (by decide) (t := .long) (by decide) (t' := .int) (by decide)))
  have F150 := Fld.other W137 F132_sb (Or.inr (slot_ne (Or.inl (hW 165 _ rfl)) (Or.inl (hW 88 _ rfl)) (by decide) (t := .long) (by decide) (t' := .int) (by decide)))
  have F151 := Fld.other W137 F132_bb (Or.inr (slot_ne (Or.inl (hW 167 _ rfl)) (Or.inl (hW 88 _ rfl)) (by decide) (t := .long) (by decide) (t' := .int) (by decide)))
  refine hG.st (fun t q => XS.aloadN S137.here hx rfl (hb hby own_d9_47) rfl (own_NS.ref N) q) ?_
  show G T137 (mkF m 48 #[rv a, .val sv] [sv, (.int sc), (.ref st)])
  have V152 := J137.arv As (ninS (Ne.symm (Exa.neArv E_a132 As (hW 55 _ rfl))) nin0)
  have N153 := own_NS.stp N J137 (allS ba all0)
  refine Own.Sit.pushR hG S137 hx V152 g_s (own_NS.sto N153 ⟨V152, hOv⟩) (own_NS.ref N) (own_up hrs) hsc rfl rfl (hb hby own_d9_48) (fun T154 h154 S154 J154 V154 => ?_)
  refine hG.st (fun t q => XS.aloadN S154.here hx rfl (hb hby own_d9_49) rfl rfl (XS.dup S154.here hx rfl (hb hby own_d9_50) rfl rfl q)) ?_
  show G T154 (mkF m 51 #[rv a, .val sv] [(.ref a), (.ref a)])
  have J156 : Own.Stp Z consts_1 vm0 h0 vm0 h154 [a, st] := Own.Stp.trans J137 J154 (allS (List.mem_of_getElem? (i := 0) rfl) (all0)) (allS (Or.inl (List.mem_of_getElem? (i := 1) rfl)) all0)
  have F155 := J154.fld F143 (ninS (Exa.neArv (J156.exa E_a132) V154 (hW 55 _ rfl)) nin0)
  refine Own.Sit.getF hG S154 hx (host := "") (Or.inl (hW 89 _ rfl)) Via.refl F155 rfl rfl (hb hby own_d9_51) (fun T157 S157 => ?_)
  refine hG.st (fun t q => XS.aloadN S157.here hx rfl (hb hby own_d9_54) rfl (own_NS.ref N) q) ?_
  show G T157 (mkF m 55 #[rv a, .val sv] [sv, (.long ch), (.ref a)])
  have N158 := own_NS.stp N153 J154 (allS bs all0)
  refine Own.Sit.callS hG S157 hx hEL (as := [sv]) (hW 91 _ rfl) (hW 92 _ rfl) (hW 56 _ rfl) (hW 93 _ rfl) (by decide) (own_len l Z a0 H sv sn B h154 S157.old N158) own_pdb70cb2 rfl rfl (hz _ rfl) (rest := [(.long ch), (.ref a)]) rfl (W := 3) (Own.hw0 rfl rfl) (hb hby own_d9_55) (by decide) (by decide) (by decide) (by decide) (fun v159 vm159 T159 h159 S159 C159 q159 => ?_)
  obtain ⟨K159, rfl⟩ := q159
  have J159 : Own.Stp Z consts_1 vm0 h154 vm159 h159 [] := ⟨K159, C159⟩
  refine hG.st (fun t q => XS.i2l S159.here hx rfl (hb hby own_d9_58) rfl (XS.ladd S159.here hx rfl (hb hby own_d9_59) rfl q)) ?_
  show G T159 (mkF m 60 #[rv a, .val sv] [(.long (ch + (sn.toInt64))), (.ref a)])
  have F160 := J159.fld F155 nin0
  have J161 : Own.Stp Z consts_1 vm0 h0 vm159 h159 [a, st] := Own.Stp.trans J156 J159 (allS (List.mem_of_getElem? (i := 0) rfl) (allS (List.mem_of_getElem? (i := 1) rfl) (all0))) all0
  have E162 := J161.exa E_a132
  have J164 : Own.Stp Z consts_1 vm0 h137 vm159 h159 [st] := Own.Stp.trans J154 J159 (allS (List.mem_of_getElem? (i := 0) rfl) (all0)) all0
  have F165 := J164.fld F138 (ninS (Exa.neArv (J156.exa E_a132) V154 (hW 55 _ rfl)) nin0)
  have F166 := J164.fld F139 (ninS (Exa.neArv (J156.exa E_a132) V154 (hW 55 _ rfl)) nin0)
  have F167 := J164.fld F140 (ninS (Exa.neArv (J156.exa E_a132) V154 (hW 55 _ rfl)) nin0)
  have F168 := J164.fld F137 (ninS (Exa.neArv (J156.exa E_a132) V154 (hW 55 _ rfl)) nin0)
  have F169 := J164.fld F141 (ninS (Exa.neArv (J156.exa E_a132) V154 (hW 55 _ rfl)) nin0)
  have F170 := J164.fld F142 (ninS (Exa.neArv (J156.exa E_a132) V154 (hW 55 _ rfl)) nin0)
  have F171 := J164.fld F144 (ninS (Exa.neArv (J156.exa E_a132) V154 (hW 55 _ rfl)) nin0)
  have F172 := J164.fld F145 (ninS (Exa.neArv (J156.exa E_a132) V154 (hW 55 _ rfl)) nin0)
  have F173 := J164.fld F146 (ninS (Exa.neArv (J156.exa E_a132) V154 (hW 55 _ rfl)) nin0)
  have F174 := J164.fld F147 (ninS (Exa.neArv (J156.exa E_a132) V154 (hW 55 _ rfl)) nin0)
  have F175 := J164.fld F148 (ninS (Exa.neArv (J156.exa E_a132) V154 (hW 55 _ rfl)) nin0)
  have F176 := J164.fld F149 (ninS (Exa.neArv (J156.exa E_a132) V154 (hW 55 _ rfl)) nin0)
  have F177 := J164.fld F150 (ninS (Exa.neArv (J156.exa E_a132) V154 (hW 55 _ rfl)) nin0)
  have F178 := J164.fld F151 (ninS (Exa.neArv (J156.exa E_a132) V154 (hW 55 _ rfl)) nin0)
  refine Own.Sit.putF hG S159 hx (host := "") (Or.inl (hW 89 _ rfl)) Via.refl F160 E162 (Or.inl (hW 90 _ rfl)) (hW 55 _ rfl) (ty := .long) (by decide) rfl rfl g_a (Safe.exa S159.warm.alike E162 (by decide) (by decide)) rfl rfl (hb hby own_d9_60) (fun T163 h163 S163 J163 W163 F163 => ?_)
  have F179 := Fld.other W163 F165 (Or.inr (slot_ne (Or.inl (hW 63 _ rfl)) (Or.inl (hW 90 _ rfl)) (by decide) (t := (.array .int)) (by decide) (t' := .long) (by decide)))
  have F180 := Fld.other W163 F166 (Or.inr (slot_ne (Or.inl (hW 80 _ rfl)) (Or.inl (hW 90 _ rfl)) (by decide) (t := .int) (by decide) (t' := .long) (by decide)))
  have F181 := Fld.other W163 F167 (Or.inr (slot_ne (Or.inl (hW 67 _ rfl)) (Or.inl (hW 90 _ rfl)) (by decide) (t := (.array (.object "java/lang/String"))) (by decide) (t' := .long) (by decide)))
  have F182 := Fld.other W163 F168 (Or.inr (slot_ne (Or.inl (hW 88 _ rfl)) (Or.inl (hW 90 _ rfl)) (by decide) (t := .int) (by decide) (t' := .long) (by decide)))
  have F183 := Fld.other W163 F169 (Or.inr (slot_ne (Or.inl (hW 69 _ rfl)) (Or.inl (hW 90 _ rfl)) (by decide) (t := (.array .byte)) (by decide) (t' := .long) (by decide)))
  have F184 := Fld.other W163 F170 (Or.inr (slot_ne (Or.inl (hW 122 _ rfl)) (Or.inl (hW 90 _ rfl)) (by decide) (t := .int) (by decide) (t' := .long) (by decide)))
  have F185 := Fld.other W163 F171 (Or.inr (slot_ne (Or.inl (hW 82 _ rfl)) (Or.inl (hW 90 _ rfl)) (by decide) (t := .int) (by decide) (t' := .long) (by decide)))
  have F186 := Fld.other W163 F172 (Or.inr (slot_ne (Or.inl (hW 146 _ rfl)) (Or.inl (hW 90 _ rfl)) (by decide) (t := .int) (by decide) (t' := .long) (by decide)))
  have F187 := Fld.other W163 F173 (Or.inr (slot_ne (Or.inl (hW 142 _ rfl)) (Or.inl (hW 90 _ rfl)) (by decide) (t := .int) (by decide) (t' := .long) (by decide)))
  have F188 := Fld.other W163 F174 (Or.inr (slot_ne (Or.inl (hW 148 _ rfl)) (Or.inl (hW 90 _ rfl)) (by decide) (t := .int) (by decide) (t' := .long) (by decide)))
  have F189 := Fld.other W163 F175 (Or.inr (slot_ne (Or.inl (hW 144 _ rfl)) (Or.inl (hW 90 _ rfl)) (by decide) (t := .long) (by decide) (t' := .long) (by decide)))
  have F190 := Fld.other W163 F176 (Or.inr (slot_ne (Or.inl (hW 163 _ rfl)) (Or.inl (hW 90 _ rfl)) (by decide) (t := .long) (by decide) (t' := .long) (by decide)))
  have F191 := Fld.other W163 F177 (Or.inr (slot_ne (Or.inl (hW 165 _ rfl)) (Or.inl (hW 90 _ rfl)) (by decide) (t := .long) (by decide) (t' := .long) (by decide)))
  have F192 := Fld.other W163 F178 (Or.inr (slot_ne (Or.inl (hW 167 _ rfl)) (Or.inl (hW 90 _ rfl)) (by decide) (t := .long) (by decide) (t' := .long) (by decide)))
  have J193 : Own.Stp Z consts_1 vm0 h0 vm159 h163 [a, st] := Own.Stp.trans J161 J163 (allS (List.mem_of_getElem? (i := 0) rfl) (allS (List.mem_of_getElem? (i := 1) rfl) (all0))) (allS (Or.inl (List.mem_of_getElem? (i := 0) rfl)) all0)
  have E194 := J163.exa E162
  have J195 : Own.Stp Z consts_1 vm0 h154 vm159 h163 [a] := Own.Stp.trans J159 J163 (all0) (allS (Or.inl (List.mem_of_getElem? (i := 0) rfl)) all0)
  have V196 := J195.arv V154 (ninS (Ne.symm (Exa.neArv (J156.exa E_a132) V154 (hW 55 _ rfl))) nin0)
  show G T163 (mkF m 63 #[rv a, .val sv] [])
  exact Own.Sit.ret0 hR S163 hx hret (hb hby own_d9_63) (by decide) (by decide) ⟨J193.1, rfl, ⟨E194, F179, F180, F181, F182, F183, F184, F163, F185, F186, F187, F188, F189, F190, F191, F192⟩, V196, hOv⟩
theorem own_pnbb447f : plainFor (⟨"com/example/scholiast/scholiast/XmlEvents", "ensureBytes", "(I)V"⟩ : MethodName) = true := by first | exact plainFor_of_name (by first | (simp [plainName, overriddenIn]; done) | decide +kernel) | decide +kernel
theorem own_d10_0 : decode prog_53_method_33_code 0 = .ok (.aload_n 0, 1) := by decide +kernel
theorem own_d10_1 : decode prog_53_method_33_code 1 = .ok (.getfield 55, 3) := by decide +kernel
theorem own_d10_4 : decode prog_53_method_33_code 4 = .ok (.iload_n 1, 1) := by decide +kernel
theorem own_d10_5 : decode prog_53_method_33_code 5 = .ok (.iadd, 1) := by decide +kernel
theorem own_d10_6 : decode prog_53_method_33_code 6 = .ok (.aload_n 0, 1) := by decide +kernel
theorem own_d10_7 : decode prog_53_method_33_code 7 = .ok (.getfield 19, 3) := by decide +kernel
theorem own_d10_10 : decode prog_53_method_33_code 10 = .ok (.arraylength, 1) := by decide +kernel
theorem own_d10_11 : decode prog_53_method_33_code 11 = .ok (.if_icmp .le 30, 3) := by decide +kernel
theorem own_d10_41 : decode prog_53_method_33_code 41 = .ok (.return_, 1) := by decide +kernel
theorem own_ef_own_eb (m : MethodId) (a : Addr) (n : Int32) : entryFrame m #[(.ref a), (.int n)] 2 = mkF m 0 #[rv a, iv n] [] := by first | (simp [entryFrame, mkF, argsToLocals, Value.category]; done) | rfl
set_option maxRecDepth 65536 in
set_option maxHeartbeats 40000000 in
theorem own_eb (l : Launch) (Z : State) (a0 : Array Value) (H : own_Wld Z a0) {cw : List Jvm.Cond} (a : Addr) (n : Int32) (o : Addr) (oc : Int32) (st : Addr) (sc : Int32) (bt : Addr) (bc : Int32) (ch : Int64) (lst : Int32) (ro : Int32) (rs : Int32) (rb : Int32) (rch : Int64) (ob : Int64) (sb : Int64) (bb : Int64) (h0 : Heap) (O0 : Ext Z.heap h0) (OB : own_Ob Z h0 a o oc st sc bt bc ch lst ro rs rb rch ob sb bb) {kb : ClassId} (BA : own_BA Z h0 bt kb) (hbc : ¬ bc < 0 ∧ bc < 4000) (hn : ¬ n < 0 ∧ n < 8) :
    Own.Con l Z consts_1 (⟨"com/example/scholiast/scholiast/XmlEvents", "ensureBytes", "(I)V"⟩ : MethodName) prog_53_method_33_code 2 none cw ({ frames := 0, cells := 0, slots := 0, locals := 0 } : Room) #[(.ref a), (.int n)] h0 (fun v h => Keep h0 h [] ∧ v = none) := by
  have hw := H.1
  have hW := fun (i : Nat) (w : Jvm.Cond) (e : tables_1[i]? = some w) => hw w (List.mem_of_getElem? e)
  have hCm := H.2.1
  have hSi := H.2.2.1
  have hEL := H.2.2.2
  have hWs : ∀ d ∈ StrChars.Road.words, d.before a0 Z = true := fun d hd => hw d (own_wbackV d hd)
  have hWl : ∀ d ∈ StrChars.Road.wordsLen, d.before a0 Z = true := fun d hd => hw d (own_wlenW d hd)
  have hSA : ∀ d ∈ Bundle.stringAtoms, d.before a0 Z = true := fun d hd => hw d (own_wSA d hd)
  refine Own.Con.of own_pnbb447f hEL O0 ?_
  intro p e s m below meth c T0 G vm0 hx hby hml hret hnm hG hR S0
  have hz : ∀ L : Array Slot, L.size = 2 → L.size = c.maxLocals := fun L q => q.trans hml.symm
  rw [own_ef_own_eb]
  show G T0 (mkF m 0 #[rv a, iv n] [])
  obtain ⟨E_a197, F197_o, F197_oc, F197_st, F197_sc, F197_bt, F197_bc, F197_ch, F197_lst, F197_ro, F197_rs, F197_rb, F197_rch, F197_ob, F197_sb, F197_bb⟩ := id OB
  obtain ⟨bl, Ab, lb⟩ := id BA
  refine hG.st (fun t q => XS.aloadN S0.here hx rfl (hb hby own_d10_0) rfl rfl q) ?_
  show G T0 (mkF m 1 #[rv a, iv n] [(.ref a)])
  refine Own.Sit.getF hG S0 hx (host := "") (Or.inl (hW 121 _ rfl)) Via.refl F197_bc rfl rfl (hb hby own_d10_1) (fun T198 S198 => ?_)
  refine hG.st (fun t q => XS.iloadN S198.here hx rfl (hb hby own_d10_4) rfl (XS.iadd S198.here hx rfl (hb hby own_d10_5) rfl (XS.aloadN S198.here hx rfl (hb hby own_d10_6) rfl rfl q))) ?_
  show G T198 (mkF m 7 #[rv a, iv n] [(.ref a), (.int (bc + n))])
  refine Own.Sit.getF hG S198 hx (host := "") (Or.inl (hW 68 _ rfl)) Via.refl F197_bt rfl rfl (hb hby own_d10_7) (fun T199 S199 => ?_)
  show G T199 (mkF m 10 #[rv a, iv n] [(.ref bt), (.int (bc + n))])
  refine Own.Sit.arraylength hG S199 hx Ab rfl rfl (hb hby own_d10_10) ?_
  show G T199 (mkF m 11 #[rv a, iv n] [(.int 16384), (.int (bc + n))])
  refine hG.st (fun t q => XS.icmpYes S199.here hx rfl (pc0 := 11) (pc' := 41) rfl (hb hby own_d10_11) rfl (flt (own_enb hbc hn : ¬ ((16384 : Int32) < (bc + n)))).2.2.2 (by decide) (by decide) q) ?_
  show G T199 (mkF m 41 #[rv a, iv n] [])
  exact Own.Sit.ret0 hR S199 hx hret (hb hby own_d10_41) (by decide) (by decide) ⟨(Keep.refl _ _), rfl⟩
theorem own_szB {Z : State} {a0 : Array Value} (hw : ∀ d ∈ tables_1, d.before a0 Z = true) : ∀ p ∈ consts_1, ∃ text : String, (Jvm.Cond.stringLink p.1 p.2 text).before a0 Z = true ∧ (∀ c ∈ text.toList, c.toNat < 256) ∧ text.toList.length ≠ (16384 : Int32).toNatClampNeg := fun p hp => by
  cases List.mem_singleton.mp hp
  exact ⟨_, hw _ (List.mem_of_getElem? (i := 5) rfl), by decide, by decide⟩
theorem own_pn429765 : plainFor (⟨"com/example/scholiast/scholiast/XmlEvents", "content", "([BII)V"⟩ : MethodName) = true := by first | exact plainFor_of_name (by first | (simp [plainName, overriddenIn]; done) | decide +kernel) | decide +kernel
theorem own_d11_0 : decode prog_53_method_29_code 0 = .ok (.aload_n 0, 1) := by decide +kernel
theorem own_d11_1 : decode prog_53_method_29_code 1 = .ok (.iconst 1, 1) := by decide +kernel
theorem own_d11_2 : decode prog_53_method_29_code 2 = .ok (.invokevirtual 31, 3) := by decide +kernel
theorem own_d11_5 : decode prog_53_method_29_code 5 = .ok (.aload_n 0, 1) := by decide +kernel
theorem own_d11_6 : decode prog_53_method_29_code 6 = .ok (.getfield 7, 3) := by decide +kernel
theorem own_d11_9 : decode prog_53_method_29_code 9 = .ok (.aload_n 0, 1) := by decide +kernel
theorem own_d11_10 : decode prog_53_method_29_code 10 = .ok (.dup, 1) := by decide +kernel
theorem own_d11_11 : decode prog_53_method_29_code 11 = .ok (.getfield 34, 3) := by decide +kernel
theorem own_d11_14 : decode prog_53_method_29_code 14 = .ok (.dup_x1, 1) := by decide +kernel
theorem own_d11_15 : decode prog_53_method_29_code 15 = .ok (.iconst 1, 1) := by decide +kernel
theorem own_d11_16 : decode prog_53_method_29_code 16 = .ok (.iadd, 1) := by decide +kernel
theorem own_d11_17 : decode prog_53_method_29_code 17 = .ok (.putfield 34, 3) := by decide +kernel
theorem own_d11_20 : decode prog_53_method_29_code 20 = .ok (.iload_n 3, 1) := by decide +kernel
theorem own_d11_21 : decode prog_53_method_29_code 21 = .ok (.iastore, 1) := by decide +kernel
theorem own_d11_22 : decode prog_53_method_29_code 22 = .ok (.aload_n 0, 1) := by decide +kernel
theorem own_d11_23 : decode prog_53_method_29_code 23 = .ok (.iload_n 3, 1) := by decide +kernel
theorem own_d11_24 : decode prog_53_method_29_code 24 = .ok (.invokevirtual 89, 3) := by decide +kernel
theorem own_d11_27 : decode prog_53_method_29_code 27 = .ok (.aload_n 1, 1) := by decide +kernel
theorem own_d11_28 : decode prog_53_method_29_code 28 = .ok (.iload_n 2, 1) := by decide +kernel
theorem own_d11_29 : decode prog_53_method_29_code 29 = .ok (.aload_n 0, 1) := by decide +kernel
theorem own_d11_30 : decode prog_53_method_29_code 30 = .ok (.getfield 19, 3) := by decide +kernel
theorem own_d11_33 : decode prog_53_method_29_code 33 = .ok (.aload_n 0, 1) := by decide +kernel
theorem own_d11_34 : decode prog_53_method_29_code 34 = .ok (.getfield 55, 3) := by decide +kernel
theorem own_d11_37 : decode prog_53_method_29_code 37 = .ok (.iload_n 3, 1) := by decide +kernel
theorem own_d11_38 : decode prog_53_method_29_code 38 = .ok (.invokestatic 83, 3) := by decide +kernel
theorem own_d11_41 : decode prog_53_method_29_code 41 = .ok (.aload_n 0, 1) := by decide +kernel
theorem own_d11_42 : decode prog_53_method_29_code 42 = .ok (.dup, 1) := by decide +kernel
theorem own_d11_43 : decode prog_53_method_29_code 43 = .ok (.getfield 55, 3) := by decide +kernel
theorem own_d11_46 : decode prog_53_method_29_code 46 = .ok (.iload_n 3, 1) := by decide +kernel
theorem own_d11_47 : decode prog_53_method_29_code 47 = .ok (.iadd, 1) := by decide +kernel
theorem own_d11_48 : decode prog_53_method_29_code 48 = .ok (.putfield 55, 3) := by decide +kernel
theorem own_d11_51 : decode prog_53_method_29_code 51 = .ok (.return_, 1) := by decide +kernel
theorem own_ef_own_content (m : MethodId) (a : Addr) (bf : Addr) (n : Int32) : entryFrame m #[(.ref a), (.ref bf), (.int 0), (.int n)] 4 = mkF m 0 #[rv a, rv bf, iv 0, iv n] [] := by first | (simp [entryFrame, mkF, argsToLocals, Value.category]; done) | rfl
set_option maxRecDepth 65536 in
set_option maxHeartbeats 40000000 in
theorem own_content (l : Launch) (Z : State) (a0 : Array Value) (H : own_Wld Z a0) {cw : List Jvm.Cond} (a : Addr) (bf : Addr) (n : Int32) (o : Addr) (oc : Int32) (st : Addr) (sc : Int32) (bt : Addr) (bc : Int32) (ch : Int64) (lst : Int32) (ro : Int32) (rs : Int32) (rb : Int32) (rch : Int64) (ob : Int64) (sb : Int64) (bb : Int64) (B : Nat) (h0 : Heap) (O0 : Ext Z.heap h0) (OB : own_Ob Z h0 a o oc st sc bt bc ch lst ro rs rb rch ob sb bb) {ko : ClassId} (IA : own_IA Z h0 o ko) {kb : ClassId} (BA : own_BA Z h0 bt kb) (hoc : ¬ oc < 0 ∧ oc < 4000) (hbc : ¬ bc < 0 ∧ bc < 4000) (hn : ¬ n < 0 ∧ n < 8) {kf : ClassId} {fl : List Value} (Af : Arv Z h0 bf kf .byte (8 : Int32) fl (.int 0)) (fB : bf < B) (ba : B ≤ a) (bo : B ≤ o) (bb_ : B ≤ bt) (g_a : Z.heap.size ≤ a) (g_o : Z.heap.size ≤ o) (g_b : Z.heap.size ≤ bt) :
    Own.Con l Z consts_1 (⟨"com/example/scholiast/scholiast/XmlEvents", "content", "([BII)V"⟩ : MethodName) prog_53_method_29_code 4 none cw ({ frames := 1, cells := 0, slots := 0, locals := 40 } : Room) #[(.ref a), (.ref bf), (.int 0), (.int n)] h0 (fun v h => Keep h0 h [a, o, bt] ∧ v = none ∧ own_Ob Z h a o (oc + 1) st sc bt (bc + n) ch lst ro rs rb rch ob sb bb ∧ own_IA Z h o ko ∧ own_BA Z h bt kb) := by
  have hw := H.1
  have hW := fun (i : Nat) (w : Jvm.Cond) (e : tables_1[i]? = some w) => hw w (List.mem_of_getElem? e)
  have hCm := H.2.1
  have hSi := H.2.2.1
  have hEL := H.2.2.2
  have hWs : ∀ d ∈ StrChars.Road.words, d.before a0 Z = true := fun d hd => hw d (own_wbackV d hd)
  have hWl : ∀ d ∈ StrChars.Road.wordsLen, d.before a0 Z = true := fun d hd => hw d (own_wlenW d hd)
  have hSA : ∀ d ∈ Bundle.stringAtoms, d.before a0 Z = true := fun d hd => hw d (own_wSA d hd)
  refine Own.Con.of own_pn429765 hEL O0 ?_
  intro p e s m below meth c T0 G vm0 hx hby hml hret hnm hG hR S0
  have hz : ∀ L : Array Slot, L.size = 4 → L.size = c.maxLocals := fun L q => q.trans hml.symm
  rw [own_ef_own_content]
  show G T0 (mkF m 0 #[rv a, rv bf, iv 0, iv n] [])
  obtain ⟨E_a200, F200_o, F200_oc, F200_st, F200_sc, F200_bt, F200_bc, F200_ch, F200_lst, F200_ro, F200_rs, F200_rb, F200_rch, F200_ob, F200_sb, F200_bb⟩ := id OB
  obtain ⟨ol, Ao, lo⟩ := id IA
  obtain ⟨bl, Ab, lb⟩ := id BA
  refine hG.st (fun t q => XS.aloadN S0.here hx rfl (hb hby own_d11_0) rfl rfl (XS.iconst S0.here hx rfl (hb hby own_d11_1) q)) ?_
  show G T0 (mkF m 2 #[rv a, rv bf, iv 0, iv n] [(.int 1), (.ref a)])
  have OB201 : own_Ob Z h0 a o oc st sc bt bc ch lst ro rs rb rch ob sb bb := ⟨E_a200, F200_o, F200_oc, F200_st, F200_sc, F200_bt, F200_bc, F200_ch, F200_lst, F200_ro, F200_rs, F200_rb, F200_rch, F200_ob, F200_sb, F200_bb⟩
  refine Own.Sit.callP hG S0 hx hEL (as := [(.int 1)]) (hW 75 _ rfl) (hW 77 _ rfl) (hW 55 _ rfl) (hW 76 _ rfl) (hW 56 _ rfl) (hW 78 _ rfl) (by decide) E_a200 (own_eo1 l Z a0 H a o oc st sc bt bc ch lst ro rs rb rch ob sb bb h0 S0.old OB201 ⟨_, Ao, lo⟩ hoc) own_pdc76b35 rfl rfl (hz _ rfl) (rest := []) rfl (W := 0) (Own.hw0 rfl rfl) (hb hby own_d11_2) (by decide) (by decide) (by decide) (by decide) (fun v202 vm202 T202 h202 S202 C202 q202 => ?_)
  obtain ⟨K202, rfl⟩ := q202
  have J202 : Own.Stp Z consts_1 vm0 h0 vm202 h202 [] := ⟨K202, C202⟩
  refine hG.st (fun t q => XS.aloadN S202.here hx rfl (hb hby own_d11_5) rfl rfl q) ?_
  show G T202 (mkF m 6 #[rv a, rv bf, iv 0, iv n] [(.ref a)])
  have F203 := J202.fld F200_o nin0
  refine Own.Sit.getF hG S202 hx (host := "") (Or.inl (hW 62 _ rfl)) Via.refl F203 rfl rfl (hb hby own_d11_6) (fun T204 S204 => ?_)
  refine hG.st (fun t q => XS.aloadN S204.here hx rfl (hb hby own_d11_9) rfl rfl (XS.dup S204.here hx rfl (hb hby own_d11_10) rfl rfl q)) ?_
  show G T204 (mkF m 11 #[rv a, rv bf, iv 0, iv n] [(.ref a), (.ref a), (.ref o)])
  have F205 := J202.fld F200_oc nin0
  refine Own.Sit.getF hG S204 hx (host := "") (Or.inl (hW 79 _ rfl)) Via.refl F205 rfl rfl (hb hby own_d11_11) (fun T206 S206 => ?_)
  refine hG.st (fun t q => XS.dupX1 S206.here hx rfl (hb hby own_d11_14) rfl rfl rfl (XS.iconst S206.here hx rfl (hb hby own_d11_15) (XS.iadd S206.here hx rfl (hb hby own_d11_16) rfl q))) ?_
  show G T206 (mkF m 17 #[rv a, rv bf, iv 0, iv n] [(.int (oc + (1 : Int32))), (.ref a), (.int oc), (.ref o)])
  have E207 := J202.exa E_a200
  have F209 := J202.fld F200_st nin0
  have F210 := J202.fld F200_sc nin0
  have F211 := J202.fld F200_bt nin0
  have F212 := J202.fld F200_bc nin0
  have F213 := J202.fld F200_ch nin0
  have F214 := J202.fld F200_lst nin0
  have F215 := J202.fld F200_ro nin0
  have F216 := J202.fld F200_rs nin0
  have F217 := J202.fld F200_rb nin0
  have F218 := J202.fld F200_rch nin0
  have F219 := J202.fld F200_ob nin0
  have F220 := J202.fld F200_sb nin0
  have F221 := J202.fld F200_bb nin0
  refine Own.Sit.putF hG S206 hx (host := "") (Or.inl (hW 79 _ rfl)) Via.refl F205 E207 (Or.inl (hW 80 _ rfl)) (hW 55 _ rfl) (ty := .int) (by decide) rfl rfl g_a (Safe.exa S206.warm.alike E207 (by decide) (by decide)) rfl rfl (hb hby own_d11_17) (fun T208 h208 S208 J208 W208 F208 => ?_)
  have F222 := Fld.other W208 F203 (Or.inr (slot_ne (Or.inl (hW 63 _ rfl)) (Or.inl (hW 80 _ rfl)) (by decide) (t := (.array .int)) (by decide) (t' := .int) (by decide)))
  have F223 := Fld.other W208 F209 (Or.inr (slot_ne (Or.inl (hW 67 _ rfl)) (Or.inl (hW 80 _ rfl)) (by decide) (t := (.array (.object "java/lang/String"))) (by decide) (t' := .int) (by decide)))
  have F224 := Fld.other W208 F210 (Or.inr (slot_ne (Or.inl (hW 88 _ rfl)) (Or.inl (hW 80 _ rfl)) (by decide) (t := .int) (by decide) (t' := .int) (by decide)))
  have F225 := Fld.other W208 F211 (Or.inr (slot_ne (Or.inl (hW 69 _ rfl)) (Or.inl (hW 80 _ rfl)) (by decide) (t := (.array .byte)) (by decide) (t' := .int) (by decide)))
  have F226 := Fld.other W208 F212 (Or.inr (slot_ne (Or.inl (hW 122 _ rfl)) (Or.inl (hW 80 _ rfl)) (by decide) (t := .int) (by decide) (t' := .int) (by decide)))
  have F227 := Fld.other W208 F213 (Or.inr (slot_ne (Or.inl (hW 90 _ rfl)) (Or.inl (hW 80 _ rfl)) (by decide) (t := .long) (by decide) (t' := .int) (by decide)))
  have F228 := Fld.other W208 F214 (Or.inr (slot_ne (Or.inl (hW 82 _ rfl)) (Or.inl (hW 80 _ rfl)) (by decide) (t := .int) (by decide) (t' := .int) (by decide)))
  have F229 := Fld.other W208 F215 (Or.inr (slot_ne (Or.inl (hW 146 _ rfl)) (Or.inl (hW 80 _ rfl)) (by decide) (t := .int) (by decide) (t' := .int) (by decide)))
  have F230 := Fld.other W208 F216 (Or.inr (slot_ne (Or.inl (hW 142 _ rfl)) (Or.inl (hW 80 _ rfl)) (by decide) (t := .int) (by decide) (t' := .int) (by decide)))
  have F231 := Fld.other W208 F217 (Or.inr (slot_ne (Or.inl (hW 148 _ rfl)) (Or.inl (hW 80 _ rfl)) (by decide) (t := .int) (by decide) (t' := .int) (by decide)))
  have F232 := Fld.other W208 F218 (Or.inr (slot_ne (Or.inl (hW 144 _ rfl)) (Or.inl (hW 80 _ rfl)) (by decide) (t := .long) (by decide) (t' := .int) (by decide)))
  have F233 := Fld.other W208 F219 (Or.inr (slot_ne (Or.inl (hW 163 _ rfl)) (Or.inl (hW 80 _ rfl)) (by decide) (t := .long) (by decide) (t' := .int) (by decide)))
  have F234 := Fld.other W208 F220 (Or.inr (slot_ne (Or.inl (hW 165 _ rfl)) (Or.inl (hW 80 _ rfl)) (by decide) (t := .long) (by decide) (t' := .int) (by decide)))
  have F235 := Fld.other W208 F221 (Or.inr (slot_ne (Or.inl (hW 167 _ rfl)) (Or.inl (hW 80 _ rfl)) (by decide) (t := .long) (by decide) (t' := .int) (by decide)))
  refine hG.st (fun t q => XS.iloadN S208.here hx rfl (hb hby own_d11_20) rfl q) ?_
  show G T208 (mkF m 21 #[rv a, rv bf, iv 0, iv n] [(.int n), (.int oc), (.ref o)])
  have J236 : Own.Stp Z consts_1 vm0 h0 vm202 h208 [a] := Own.Stp.trans J202 J208 (all0) (allS (Or.inl (List.mem_of_getElem? (i := 0) rfl)) all0)
  have V237 := J236.arv Ao (ninS (Ne.symm (Exa.neArv E_a200 Ao (hW 55 _ rfl))) nin0)
  refine Own.Sit.stI hG S208 hx V237 g_o (own_up hoc) oc.toNatClampNeg rfl (by rw [lo]; exact own_cl (own_up hoc)) rfl rfl (hb hby own_d11_21) (fun T238 h238 S238 J238 V238 => ?_)
  obtain ⟨ol238, Ao238, lo238⟩ : own_IA Z h238 o ko := ⟨_, V238, by rw [List.length_set]; exact lo⟩
  refine hG.st (fun t q => XS.aloadN S238.here hx rfl (hb hby own_d11_22) rfl rfl (XS.iloadN S238.here hx rfl (hb hby own_d11_23) rfl q)) ?_
  show G T238 (mkF m 24 #[rv a, rv bf, iv 0, iv n] [(.int n), (.ref a)])
  have J240 : Own.Stp Z consts_1 vm202 h202 vm202 h238 [a, o] := Own.Stp.trans J208 J238 (allS (List.mem_of_getElem? (i := 0) rfl) (all0)) (allS (Or.inl (List.mem_of_getElem? (i := 1) rfl)) all0)
  have E241 := J240.exa E207
  have J243 : Own.Stp Z consts_1 vm0 h0 vm202 h238 [a, o] := Own.Stp.trans J236 J238 (allS (List.mem_of_getElem? (i := 0) rfl) (all0)) (allS (Or.inl (List.mem_of_getElem? (i := 1) rfl)) all0)
  have F242 := J238.fld F222 (ninS (Exa.neArv (J243.exa E_a200) Ao238 (hW 55 _ rfl)) nin0)
  have F244 := J238.fld F208 (ninS (Exa.neArv (J243.exa E_a200) Ao238 (hW 55 _ rfl)) nin0)
  have F245 := J238.fld F223 (ninS (Exa.neArv (J243.exa E_a200) Ao238 (hW 55 _ rfl)) nin0)
  have F246 := J238.fld F224 (ninS (Exa.neArv (J243.exa E_a200) Ao238 (hW 55 _ rfl)) nin0)
  have F247 := J238.fld F225 (ninS (Exa.neArv (J243.exa E_a200) Ao238 (hW 55 _ rfl)) nin0)
  have F248 := J238.fld F226 (ninS (Exa.neArv (J243.exa E_a200) Ao238 (hW 55 _ rfl)) nin0)
  have F249 := J238.fld F227 (ninS (Exa.neArv (J243.exa E_a200) Ao238 (hW 55 _ rfl)) nin0)
  have F250 := J238.fld F228 (ninS (Exa.neArv (J243.exa E_a200) Ao238 (hW 55 _ rfl)) nin0)
  have F251 := J238.fld F229 (ninS (Exa.neArv (J243.exa E_a200) Ao238 (hW 55 _ rfl)) nin0)
  have F252 := J238.fld F230 (ninS (Exa.neArv (J243.exa E_a200) Ao238 (hW 55 _ rfl)) nin0)
  have F253 := J238.fld F231 (ninS (Exa.neArv (J243.exa E_a200) Ao238 (hW 55 _ rfl)) nin0)
  have F254 := J238.fld F232 (ninS (Exa.neArv (J243.exa E_a200) Ao238 (hW 55 _ rfl)) nin0)
  have F255 := J238.fld F233 (ninS (Exa.neArv (J243.exa E_a200) Ao238 (hW 55 _ rfl)) nin0)
  have F256 := J238.fld F234 (ninS (Exa.neArv (J243.exa E_a200) Ao238 (hW 55 _ rfl)) nin0)
  have F257 := J238.fld F235 (ninS (Exa.neArv (J243.exa E_a200) Ao238 (hW 55 _ rfl)) nin0)
  have OB239 : own_Ob Z h238 a o (oc + (1 : Int32)) st sc bt bc ch lst ro rs rb rch ob sb bb := ⟨E241, F242, F244, F245, F246, F247, F248, F249, F250, F251, F252, F253, F254, F255, F256, F257⟩
  have V258 := J243.arv Ab (ninS (Ne.symm (Exa.neArv E_a200 Ab (hW 55 _ rfl))) (ninS (Own.arr_neK Ab Ao (by simp)) nin0))
  refine Own.Sit.callP hG S238 hx hEL (as := [(.int n)]) (hW 117 _ rfl) (hW 119 _ rfl) (hW 55 _ rfl) (hW 118 _ rfl) (hW 56 _ rfl) (hW 120 _ rfl) (by decide) E241 (own_eb l Z a0 H a n o (oc + (1 : Int32)) st sc bt bc ch lst ro rs rb rch ob sb bb h238 S238.old OB239 ⟨_, V258, lb⟩ hbc hn) own_pdc76b35 rfl rfl (hz _ rfl) (rest := []) rfl (W := 0) (Own.hw0 rfl rfl) (hb hby own_d11_24) (by decide) (by decide) (by decide) (by decide) (fun v259 vm259 T259 h259 S259 C259 q259 => ?_)
  obtain ⟨K259, rfl⟩ := q259
  have J259 : Own.Stp Z consts_1 vm202 h238 vm259 h259 [] := ⟨K259, C259⟩
  refine hG.st (fun t q => XS.aloadN S259.here hx rfl (hb hby own_d11_27) rfl rfl (XS.iloadN S259.here hx rfl (hb hby own_d11_28) rfl (XS.aloadN S259.here hx rfl (hb hby own_d11_29) rfl rfl q))) ?_
  show G T259 (mkF m 30 #[rv a, rv bf, iv 0, iv n] [(.ref a), (.int 0), (.ref bf)])
  have F260 := J259.fld F247 nin0
  refine Own.Sit.getF hG S259 hx (host := "") (Or.inl (hW 68 _ rfl)) Via.refl F260 rfl rfl (hb hby own_d11_30) (fun T261 S261 => ?_)
  refine hG.st (fun t q => XS.aloadN S261.here hx rfl (hb hby own_d11_33) rfl rfl q) ?_
  show G T261 (mkF m 34 #[rv a, rv bf, iv 0, iv n] [(.ref a), (.ref bt), (.int 0), (.ref bf)])
  have F262 := J259.fld F248 nin0
  refine Own.Sit.getF hG S261 hx (host := "") (Or.inl (hW 121 _ rfl)) Via.refl F262 rfl rfl (hb hby own_d11_34) (fun T263 S263 => ?_)
  refine hG.st (fun t q => XS.iloadN S263.here hx rfl (hb hby own_d11_37) rfl q) ?_
  show G T263 (mkF m 38 #[rv a, rv bf, iv 0, iv n] [(.int n), (.int bc), (.ref bt), (.int 0), (.ref bf)])
  have J264 : Own.Stp Z consts_1 vm0 h0 vm259 h259 [a, o] := Own.Stp.trans J243 J259 (allS (List.mem_of_getElem? (i := 0) rfl) (allS (List.mem_of_getElem? (i := 1) rfl) (all0))) all0
  have V265 := J264.arv Af (ninS (Nat.ne_of_lt (Nat.lt_of_lt_of_le fB ba)) (ninS (Nat.ne_of_lt (Nat.lt_of_lt_of_le fB bo)) nin0))
  have V266 := J259.arv V258 nin0
  refine Own.Sit.cpA hG S263 hx (hW 123 _ rfl) (hW 126 _ rfl) (hW 124 _ rfl) (hW 125 _ rfl) V265 V266 rfl (by decide) hbc.1 hn.1 (own_c8 hn) (own_cap hbc hn) rfl (by rw [lb]; exact own_cap hbc hn) g_b (Own.Safe.size S263.warm V266 (hW 7 _ rfl) (own_szB hw)) rfl (hz _ rfl) (rest := []) rfl (hb hby own_d11_38) (by decide) (W := 0) (Own.hw0 rfl rfl) (by decide) (fun T267 h267 S267 J267 V267 => ?_)
  obtain ⟨bl267, Ab267, lb267⟩ : own_BA Z h267 bt kb := ⟨_, V267, own_len3 lb (by simp) (own_cap hbc hn)⟩
  refine hG.st (fun t q => XS.aloadN S267.here hx rfl (hb hby own_d11_41) rfl rfl (XS.dup S267.here hx rfl (hb hby own_d11_42) rfl rfl q)) ?_
  show G T267 (mkF m 43 #[rv a, rv bf, iv 0, iv n] [(.ref a), (.ref a)])
  have J269 : Own.Stp Z consts_1 vm0 h0 vm259 h267 [a, o, bt] := Own.Stp.trans J264 J267 (allS (List.mem_of_getElem? (i := 0) rfl) (allS (List.mem_of_getElem? (i := 1) rfl) (all0))) (allS (Or.inl (List.mem_of_getElem? (i := 2) rfl)) all0)
  have F268 := J267.fld F262 (ninS (Exa.neArv (J269.exa E_a200) Ab267 (hW 55 _ rfl)) nin0)
  refine Own.Sit.getF hG S267 hx (host := "") (Or.inl (hW 121 _ rfl)) Via.refl F268 rfl rfl (hb hby own_d11_43) (fun T270 S270 => ?_)
  refine hG.st (fun t q => XS.iloadN S270.here hx rfl (hb hby own_d11_46) rfl (XS.iadd S270.here hx rfl (hb hby own_d11_47) rfl q)) ?_
  show G T270 (mkF m 48 #[rv a, rv bf, iv 0, iv n] [(.int (bc + n)), (.ref a)])
  have J271 : Own.Stp Z consts_1 vm202 h238 vm259 h267 [bt] := Own.Stp.trans J259 J267 (all0) (allS (Or.inl (List.mem_of_getElem? (i := 0) rfl)) all0)
  have E272 := J271.exa E241
  have F274 := J271.fld F242 (ninS (Exa.neArv (J269.exa E_a200) Ab267 (hW 55 _ rfl)) nin0)
  have F275 := J271.fld F244 (ninS (Exa.neArv (J269.exa E_a200) Ab267 (hW 55 _ rfl)) nin0)
  have F276 := J271.fld F245 (ninS (Exa.neArv (J269.exa E_a200) Ab267 (hW 55 _ rfl)) nin0)
  have F277 := J271.fld F246 (ninS (Exa.neArv (J269.exa E_a200) Ab267 (hW 55 _ rfl)) nin0)
  have F278 := J267.fld F260 (ninS (Exa.neArv (J269.exa E_a200) Ab267 (hW 55 _ rfl)) nin0)
  have F279 := J271.fld F249 (ninS (Exa.neArv (J269.exa E_a200) Ab267 (hW 55 _ rfl)) nin0)
  have F280 := J271.fld F250 (ninS (Exa.neArv (J269.exa E_a200) Ab267 (hW 55 _ rfl)) nin0)
  have F281 := J271.fld F251 (ninS (Exa.neArv (J269.exa E_a200) Ab267 (hW 55 _ rfl)) nin0)
  have F282 := J271.fld F252 (ninS (Exa.neArv (J269.exa E_a200) Ab267 (hW 55 _ rfl)) nin0)
  have F283 := J271.fld F253 (ninS (Exa.neArv (J269.exa E_a200) Ab267 (hW 55 _ rfl)) nin0)
  have F284 := J271.fld F254 (ninS (Exa.neArv (J269.exa E_a200) Ab267 (hW 55 _ rfl)) nin0)
  have F285 := J271.fld F255 (ninS (Exa.neArv (J269.exa E_a200) Ab267 (hW 55 _ rfl)) nin0)
  have F286 := J271.fld F256 (ninS (Exa.neArv (J269.exa E_a200) Ab267 (hW 55 _ rfl)) nin0)
  have F287 := J271.fld F257 (ninS (Exa.neArv (J269.exa E_a200) Ab267 (hW 55 _ rfl)) nin0)
  refine Own.Sit.putF hG S270 hx (host := "") (Or.inl (hW 121 _ rfl)) Via.refl F268 E272 (Or.inl (hW 122 _ rfl)) (hW 55 _ rfl) (ty := .int) (by decide) rfl rfl g_a (Safe.exa S270.warm.alike E272 (by decide) (by decide)) rfl rfl (hb hby own_d11_48) (fun T273 h273 S273 J273 W273 F273 => ?_)
  have F288 := Fld.other W273 F274 (Or.inr (slot_ne (Or.inl (hW 63 _ rfl)) (Or.inl (hW 122 _ rfl)) (by decide) (t := (.array .int)) (by decide) (t' := .int) (by decide)))
  have F289 := Fld.other W273 F275 (Or.inr (slot_ne (Or.inl (hW 80 _ rfl)) (Or.inl (hW 122 _ rfl)) (by decide) (t := .int) (by decide) (t' := .int) (by decide)))
  have F290 := Fld.other W273 F276 (Or.inr (slot_ne (Or.inl (hW 67 _ rfl)) (Or.inl (hW 122 _ rfl)) (by decide) (t := (.array (.object "java/lang/String"))) (by decide) (t' := .int) (by decide)))
  have F291 := Fld.other W273 F277 (Or.inr (slot_ne (Or.inl (hW 88 _ rfl)) (Or.inl (hW 122 _ rfl)) (by decide) (t := .int) (by decide) (t' := .int) (by decide)))
  have F292 := Fld.other W273 F278 (Or.inr (slot_ne (Or.inl (hW 69 _ rfl)) (Or.inl (hW 122 _ rfl)) (by decide) (t := (.array .byte)) (by decide) (t' := .int) (by decide)))
  have F293 := Fld.other W273 F279 (Or.inr (slot_ne (Or.inl (hW 90 _ rfl)) (Or.inl (hW 122 _ rfl)) (by decide) (t := .long) (by decide) (t' := .int) (by decide)))
  have F294 := Fld.other W273 F280 (Or.inr (slot_ne (Or.inl (hW 82 _ rfl)) (Or.inl (hW 122 _ rfl)) (by decide) (t := .int) (by decide) (t' := .int) (by decide)))
  have F295 := Fld.other W273 F281 (Or.inr (slot_ne (Or.inl (hW 146 _ rfl)) (Or.inl (hW 122 _ rfl)) (by decide) (t := .int) (by decide) (t' := .int) (by decide)))
  have F296 := Fld.other W273 F282 (Or.inr (slot_ne (Or.inl (hW 142 _ rfl)) (Or.inl (hW 122 _ rfl)) (by decide) (t := .int) (by decide) (t' := .int) (by decide)))
  have F297 := Fld.other W273 F283 (Or.inr (slot_ne (Or.inl (hW 148 _ rfl)) (Or.inl (hW 122 _ rfl)) (by decide) (t := .int) (by decide) (t' := .int) (by decide)))
  have F298 := Fld.other W273 F284 (Or.inr (slot_ne (Or.inl (hW 144 _ rfl)) (Or.inl (hW 122 _ rfl)) (by decide) (t := .long) (by decide) (t' := .int) (by decide)))
  have F299 := Fld.other W273 F285 (Or.inr (slot_ne (Or.inl (hW 163 _ rfl)) (Or.inl (hW 122 _ rfl)) (by decide) (t := .long) (by decide) (t' := .int) (by decide)))
  have F300 := Fld.other W273 F286 (Or.inr (slot_ne (Or.inl (hW 165 _ rfl)) (Or.inl (hW 122 _ rfl)) (by decide) (t := .long) (by decide) (t' := .int) (by decide)))
  have F301 := Fld.other W273 F287 (Or.inr (slot_ne (Or.inl (hW 167 _ rfl)) (Or.inl (hW 122 _ rfl)) (by decide) (t := .long) (by decide) (t' := .int) (by decide)))
  have J302 : Own.Stp Z consts_1 vm0 h0 vm259 h273 [a, o, bt] := Own.Stp.trans J269 J273 (allS (List.mem_of_getElem? (i := 0) rfl) (allS (List.mem_of_getElem? (i := 1) rfl) (allS (List.mem_of_getElem? (i := 2) rfl) (all0)))) (allS (Or.inl (List.mem_of_getElem? (i := 0) rfl)) all0)
  have E303 := J273.exa E272
  have J304 : Own.Stp Z consts_1 vm202 h238 vm259 h273 [bt, a] := Own.Stp.trans J271 J273 (allS (List.mem_of_getElem? (i := 0) rfl) (all0)) (allS (Or.inl (List.mem_of_getElem? (i := 1) rfl)) all0)
  have V305 := J304.arv Ao238 (ninS (Ne.symm (Own.arr_neK Ab Ao (by simp))) (ninS (Ne.symm (Exa.neArv (J243.exa E_a200) Ao238 (hW 55 _ rfl))) nin0))
  have V306 := J273.arv Ab267 (ninS (Ne.symm (Exa.neArv (J269.exa E_a200) Ab267 (hW 55 _ rfl))) nin0)
  show G T273 (mkF m 51 #[rv a, rv bf, iv 0, iv n] [])
  exact Own.Sit.ret0 hR S273 hx hret (hb hby own_d11_51) (by decide) (by decide) ⟨J302.1, rfl, ⟨E303, F288, F289, F290, F291, F292, F273, F293, F294, F295, F296, F297, F298, F299, F300, F301⟩, ⟨_, V305, lo238⟩, ⟨_, V306, lb267⟩⟩
theorem own_pn891c25 : plainFor (⟨"com/example/scholiast/scholiast/XmlEvents", "<init>", "()V"⟩ : MethodName) = true := by first | exact plainFor_of_name (by first | (simp [plainName, overriddenIn]; done) | decide +kernel) | decide +kernel
theorem own_d12_0 : decode prog_53_method_1_code 0 = .ok (.aload_n 0, 1) := by decide +kernel
theorem own_d12_1 : decode prog_53_method_1_code 1 = .ok (.invokespecial 1, 3) := by decide +kernel
theorem own_d12_4 : decode prog_53_method_1_code 4 = .ok (.aload_n 0, 1) := by decide +kernel
theorem own_d12_5 : decode prog_53_method_1_code 5 = .ok (.sipush 4096, 3) := by decide +kernel
theorem own_d12_8 : decode prog_53_method_1_code 8 = .ok (.newarray .int, 2) := by decide +kernel
theorem own_d12_10 : decode prog_53_method_1_code 10 = .ok (.putfield 7, 3) := by decide +kernel
theorem own_d12_13 : decode prog_53_method_1_code 13 = .ok (.aload_n 0, 1) := by decide +kernel
theorem own_d12_14 : decode prog_53_method_1_code 14 = .ok (.sipush 4096, 3) := by decide +kernel
theorem own_d12_17 : decode prog_53_method_1_code 17 = .ok (.anewarray 13, 3) := by decide +kernel
theorem own_d12_20 : decode prog_53_method_1_code 20 = .ok (.putfield 15, 3) := by decide +kernel
theorem own_d12_23 : decode prog_53_method_1_code 23 = .ok (.aload_n 0, 1) := by decide +kernel
theorem own_d12_24 : decode prog_53_method_1_code 24 = .ok (.sipush 16384, 3) := by decide +kernel
theorem own_d12_27 : decode prog_53_method_1_code 27 = .ok (.newarray .byte, 2) := by decide +kernel
theorem own_d12_29 : decode prog_53_method_1_code 29 = .ok (.putfield 19, 3) := by decide +kernel
theorem own_d12_32 : decode prog_53_method_1_code 32 = .ok (.return_, 1) := by decide +kernel
theorem own_ef_own_ini (m : MethodId) (a : Addr) : entryFrame m #[(.ref a)] 1 = mkF m 0 #[rv a] [] := by first | (simp [entryFrame, mkF, argsToLocals, Value.category]; done) | rfl
set_option maxRecDepth 65536 in
set_option maxHeartbeats 40000000 in
theorem own_ini (l : Launch) (Z : State) (a0 : Array Value) (H : own_Wld Z a0) {cw : List Jvm.Cond} (a : Addr) (h0 : Heap) (O0 : Ext Z.heap h0) (g_a : Z.heap.size ≤ a) (E_a : Exa Z h0 a "com/example/scholiast/scholiast/XmlEvents") (F_o : Fld Z h0 a "com/example/scholiast/scholiast/XmlEvents" "ops" "[I" .null) (F_oc : Fld Z h0 a "com/example/scholiast/scholiast/XmlEvents" "opCount" "I" (.int 0)) (F_st : Fld Z h0 a "com/example/scholiast/scholiast/XmlEvents" "strings" "[Ljava/lang/String;" .null) (F_sc : Fld Z h0 a "com/example/scholiast/scholiast/XmlEvents" "stringCount" "I" (.int 0)) (F_bt : Fld Z h0 a "com/example/scholiast/scholiast/XmlEvents" "bytes" "[B" .null) (F_bc : Fld Z h0 a "com/example/scholiast/scholiast/XmlEvents" "byteCount" "I" (.int 0)) (F_ch : Fld Z h0 a "com/example/scholiast/scholiast/XmlEvents" "stringChars" "J" (.long (0 : Int64))) (F_lst : Fld Z h0 a "com/example/scholiast/scholiast/XmlEvents" "lastStart" "I" (.int 0)) (F_ro : Fld Z h0 a "com/example/scholiast/scholiast/XmlEvents" "releasedOps" "I" (.int 0)) (F_rs : Fld Z h0 a "com/example/scholiast/scholiast/XmlEvents" "releasedStrings" "I" (.int 0)) (F_rb : Fld Z h0 a "com/example/scholiast/scholiast/XmlEvents" "releasedBytes" "I" (.int 0)) (F_rch : Fld Z h0 a "com/example/scholiast/scholiast/XmlEvents" "releasedStringChars" "J" (.long (0 : Int64))) (F_ob : Fld Z h0 a "com/example/scholiast/scholiast/XmlEvents" "opsBefore" "J" (.long (0 : Int64))) (F_sb : Fld Z h0 a "com/example/scholiast/scholiast/XmlEvents" "stringsBefore" "J" (.long (0 : Int64))) (F_bb : Fld Z h0 a "com/example/scholiast/scholiast/XmlEvents" "bytesBefore" "J" (.long (0 : Int64))) :
    Own.Con l Z consts_1 (⟨"com/example/scholiast/scholiast/XmlEvents", "<init>", "()V"⟩ : MethodName) prog_53_method_1_code 1 none cw ({ frames := 1, cells := 3, slots := 24576, locals := 12 } : Room) #[(.ref a)] h0 (fun v h => Keep h0 h [a] ∧ v = none ∧ ∃ o st bt ko ks kb, own_Ob Z h a o 0 st 0 bt 0 0 0 0 0 0 0 0 0 0 ∧ own_IA Z h o ko ∧ own_SA Z h st ks [] ∧ own_BA Z h bt kb ∧ h0.size ≤ o ∧ h0.size ≤ st ∧ h0.size ≤ bt) := by
  have hw := H.1
  have hW := fun (i : Nat) (w : Jvm.Cond) (e : tables_1[i]? = some w) => hw w (List.mem_of_getElem? e)
  have hCm := H.2.1
  have hSi := H.2.2.1
  have hEL := H.2.2.2
  have hWs : ∀ d ∈ StrChars.Road.words, d.before a0 Z = true := fun d hd => hw d (own_wbackV d hd)
  have hWl : ∀ d ∈ StrChars.Road.wordsLen, d.before a0 Z = true := fun d hd => hw d (own_wlenW d hd)
  have hSA : ∀ d ∈ Bundle.stringAtoms, d.before a0 Z = true := fun d hd => hw d (own_wSA d hd)
  refine Own.Con.of own_pn891c25 hEL O0 ?_
  intro p e s m below meth c T0 G vm0 hx hby hml hret hnm hG hR S0
  have hz : ∀ L : Array Slot, L.size = 1 → L.size = c.maxLocals := fun L q => q.trans hml.symm
  rw [own_ef_own_ini]
  show G T0 (mkF m 0 #[rv a] [])
  refine hG.st (fun t q => XS.aloadN S0.here hx rfl (hb hby own_d12_0) rfl rfl q) ?_
  show G T0 (mkF m 1 #[rv a] [(.ref a)])
  refine Own.Sit.initO hG S0 hx (hW 60 _ rfl) (hW 22 _ rfl) (hW 23 _ rfl) rfl (hz _ rfl) rfl (hb hby own_d12_1) (by decide) (W := 0) (Own.hw0 rfl rfl) (by decide) (fun T307 S307 => ?_)
  refine hG.st (fun t q => XS.aloadN S307.here hx rfl (hb hby own_d12_4) rfl rfl (XS.sipush S307.here hx rfl (hb hby own_d12_5) q)) ?_
  show G T307 (mkF m 8 #[rv a] [(.int 4096), (.ref a)])
  refine Own.Sit.newP hG S307 hx (aty := .int) (hW 61 _ rfl) rfl (hb hby own_d12_8) rfl (by decide) (cap := 4096) (by decide) (by decide) (by decide) (by decide) (fun T308 h308 x308 k308 g_x308 S308 J308 Sf308 V308 => ?_)
  have lt_x308 := V308.lt
  have ga_x308 : Z.heap.size ≤ x308 := Nat.le_trans S307.le (Nat.le_of_eq g_x308.symm)
  have F309 := J308.fld F_o nin0
  have E310 := J308.exa E_a
  have F312 := J308.fld F_oc nin0
  have F313 := J308.fld F_st nin0
  have F314 := J308.fld F_sc nin0
  have F315 := J308.fld F_bt nin0
  have F316 := J308.fld F_bc nin0
  have F317 := J308.fld F_ch nin0
  have F318 := J308.fld F_lst nin0
  have F319 := J308.fld F_ro nin0
  have F320 := J308.fld F_rs nin0
  have F321 := J308.fld F_rb nin0
  have F322 := J308.fld F_rch nin0
  have F323 := J308.fld F_ob nin0
  have F324 := J308.fld F_sb nin0
  have F325 := J308.fld F_bb nin0
  show G T308 (mkF m 10 #[rv a] [(.ref x308), (.ref a)])
  refine Own.Sit.putF hG S308 hx (host := "") (Or.inl (hW 62 _ rfl)) Via.refl F309 E310 (Or.inl (hW 63 _ rfl)) (hW 55 _ rfl) (ty := (.array .int)) (by decide) rfl rfl g_a (Safe.exa S308.warm.alike E310 (by decide) (by decide)) rfl rfl (hb hby own_d12_10) (fun T311 h311 S311 J311 W311 F311 => ?_)
  have F326 := Fld.other W311 F312 (Or.inr (slot_ne (Or.inl (hW 80 _ rfl)) (Or.inl (hW 63 _ rfl)) (by decide) (t := .int) (by decide) (t' := (.array .int)) (by decide)))
  have F327 := Fld.other W311 F313 (Or.inr (slot_ne (Or.inl (hW 67 _ rfl)) (Or.inl (hW 63 _ rfl)) (by decide) (t := (.array (.object "java/lang/String"))) (by decide) (t' := (.array .int)) (by decide)))
  have F328 := Fld.other W311 F314 (Or.inr (slot_ne (Or.inl (hW 88 _ rfl)) (Or.inl (hW 63 _ rfl)) (by decide) (t := .int) (by decide) (t' := (.array .int)) (by decide)))
  have F329 := Fld.other W311 F315 (Or.inr (slot_ne (Or.inl (hW 69 _ rfl)) (Or.inl (hW 63 _ rfl)) (by decide) (t := (.array .byte)) (by decide) (t' := (.array .int)) (by decide)))
  have F330 := Fld.other W311 F316 (Or.inr (slot_ne (Or.inl (hW 122 _ rfl)) (Or.inl (hW 63 _ rfl)) (by decide) (t := .int) (by decide) (t' := (.array .int)) (by decide)))
  have F331 := Fld.other W311 F317 (Or.inr (slot_ne (Or.inl (hW 90 _ rfl)) (Or.inl (hW 63 _ rfl)) (by decide) (t := .long) (by decide) (t' := (.array .int)) (by decide)))
  have F332 := Fld.other W311 F318 (Or.inr (slot_ne (Or.inl (hW 82 _ rfl)) (Or.inl (hW 63 _ rfl)) (by decide) (t := .int) (by decide) (t' := (.array .int)) (by decide)))
  have F333 := Fld.other W311 F319 (Or.inr (slot_ne (Or.inl (hW 146 _ rfl)) (Or.inl (hW 63 _ rfl)) (by decide) (t := .int) (by decide) (t' := (.array .int)) (by decide)))
  have F334 := Fld.other W311 F320 (Or.inr (slot_ne (Or.inl (hW 142 _ rfl)) (Or.inl (hW 63 _ rfl)) (by decide) (t := .int) (by decide) (t' := (.array .int)) (by decide)))
  have F335 := Fld.other W311 F321 (Or.inr (slot_ne (Or.inl (hW 148 _ rfl)) (Or.inl (hW 63 _ rfl)) (by decide) (t := .int) (by decide) (t' := (.array .int)) (by decide)))
  have F336 := Fld.other W311 F322 (Or.inr (slot_ne (Or.inl (hW 144 _ rfl)) (Or.inl (hW 63 _ rfl)) (by decide) (t := .long) (by decide) (t' := (.array .int)) (by decide)))
  have F337 := Fld.other W311 F323 (Or.inr (slot_ne (Or.inl (hW 163 _ rfl)) (Or.inl (hW 63 _ rfl)) (by decide) (t := .long) (by decide) (t' := (.array .int)) (by decide)))
  have F338 := Fld.other W311 F324 (Or.inr (slot_ne (Or.inl (hW 165 _ rfl)) (Or.inl (hW 63 _ rfl)) (by decide) (t := .long) (by decide) (t' := (.array .int)) (by decide)))
  have F339 := Fld.other W311 F325 (Or.inr (slot_ne (Or.inl (hW 167 _ rfl)) (Or.inl (hW 63 _ rfl)) (by decide) (t := .long) (by decide) (t' := (.array .int)) (by decide)))
  refine hG.st (fun t q => XS.aloadN S311.here hx rfl (hb hby own_d12_13) rfl rfl (XS.sipush S311.here hx rfl (hb hby own_d12_14) q)) ?_
  show G T311 (mkF m 17 #[rv a] [(.int 4096), (.ref a)])
  refine Own.Sit.newR hG S311 hx (hW 64 _ rfl) (hW 65 _ rfl) rfl (hb hby own_d12_17) rfl (by decide) (cap := 4096) (by decide) (by decide) (by decide) (by decide) (fun T340 h340 x340 k340 g_x340 S340 J340 V340 O340 => ?_)
  have lt_x340 := V340.lt
  have ga_x340 : Z.heap.size ≤ x340 := Nat.le_trans S311.le (Nat.le_of_eq g_x340.symm)
  have F341 := J340.fld F327 nin0
  have J342 : Own.Stp Z consts_1 vm0 h308 vm0 h340 [a] := Own.Stp.trans J311 J340 (allS (List.mem_of_getElem? (i := 0) rfl) (all0)) all0
  have E343 := J342.exa E310
  have F345 := J340.fld F311 nin0
  have F346 := J340.fld F326 nin0
  have F347 := J340.fld F328 nin0
  have F348 := J340.fld F329 nin0
  have F349 := J340.fld F330 nin0
  have F350 := J340.fld F331 nin0
  have F351 := J340.fld F332 nin0
  have F352 := J340.fld F333 nin0
  have F353 := J340.fld F334 nin0
  have F354 := J340.fld F335 nin0
  have F355 := J340.fld F336 nin0
  have F356 := J340.fld F337 nin0
  have F357 := J340.fld F338 nin0
  have F358 := J340.fld F339 nin0
  show G T340 (mkF m 20 #[rv a] [(.ref x340), (.ref a)])
  refine Own.Sit.putF hG S340 hx (host := "") (Or.inl (hW 66 _ rfl)) Via.refl F341 E343 (Or.inl (hW 67 _ rfl)) (hW 55 _ rfl) (ty := (.array (.object "java/lang/String"))) (by decide) rfl rfl g_a (Safe.exa S340.warm.alike E343 (by decide) (by decide)) rfl rfl (hb hby own_d12_20) (fun T344 h344 S344 J344 W344 F344 => ?_)
  have F359 := Fld.other W344 F345 (Or.inr (slot_ne (Or.inl (hW 63 _ rfl)) (Or.inl (hW 67 _ rfl)) (by decide) (t := (.array .int)) (by decide) (t' := (.array (.object "java/lang/String"))) (by decide)))
  have F360 := Fld.other W344 F346 (Or.inr (slot_ne (Or.inl (hW 80 _ rfl)) (Or.inl (hW 67 _ rfl)) (by decide) (t := .int) (by decide) (t' := (.array (.object "java/lang/String"))) (by decide)))
  have F361 := Fld.other W344 F347 (Or.inr (slot_ne (Or.inl (hW 88 _ rfl)) (Or.inl (hW 67 _ rfl)) (by decide) (t := .int) (by decide) (t' := (.array (.object "java/lang/String"))) (by decide)))
  have F362 := Fld.other W344 F348 (Or.inr (slot_ne (Or.inl (hW 69 _ rfl)) (Or.inl (hW 67 _ rfl)) (by decide) (t := (.array .byte)) (by decide) (t' := (.array (.object "java/lang/String"))) (by decide)))
  have F363 := Fld.other W344 F349 (Or.inr (slot_ne (Or.inl (hW 122 _ rfl)) (Or.inl (hW 67 _ rfl)) (by decide) (t := .int) (by decide) (t' := (.array (.object "java/lang/String"))) (by decide)))
  have F364 := Fld.other W344 F350 (Or.inr (slot_ne (Or.inl (hW 90 _ rfl)) (Or.inl (hW 67 _ rfl)) (by decide) (t := .long) (by decide) (t' := (.array (.object "java/lang/String"))) (by decide)))
  have F365 := Fld.other W344 F351 (Or.inr (slot_ne (Or.inl (hW 82 _ rfl)) (Or.inl (hW 67 _ rfl)) (by decide) (t := .int) (by decide) (t' := (.array (.object "java/lang/String"))) (by decide)))
  have F366 := Fld.other W344 F352 (Or.inr (slot_ne (Or.inl (hW 146 _ rfl)) (Or.inl (hW 67 _ rfl)) (by decide) (t := .int) (by decide) (t' := (.array (.object "java/lang/String"))) (by decide)))
  have F367 := Fld.other W344 F353 (Or.inr (slot_ne (Or.inl (hW 142 _ rfl)) (Or.inl (hW 67 _ rfl)) (by decide) (t := .int) (by decide) (t' := (.array (.object "java/lang/String"))) (by decide)))
  have F368 := Fld.other W344 F354 (Or.inr (slot_ne (Or.inl (hW 148 _ rfl)) (Or.inl (hW 67 _ rfl)) (by decide) (t := .int) (by decide) (t' := (.array (.object "java/lang/String"))) (by decide)))
  have F369 := Fld.other W344 F355 (Or.inr (slot_ne (Or.inl (hW 144 _ rfl)) (Or.inl (hW 67 _ rfl)) (by decide) (t := .long) (by decide) (t' := (.array (.object "java/lang/String"))) (by decide)))
  have F370 := Fld.other W344 F356 (Or.inr (slot_ne (Or.inl (hW 163 _ rfl)) (Or.inl (hW 67 _ rfl)) (by decide) (t := .long) (by decide) (t' := (.array (.object "java/lang/String"))) (by decide)))
  have F371 := Fld.other W344 F357 (Or.inr (slot_ne (Or.inl (hW 165 _ rfl)) (Or.inl (hW 67 _ rfl)) (by decide) (t := .long) (by decide) (t' := (.array (.object "java/lang/String"))) (by decide)))
  have F372 := Fld.other W344 F358 (Or.inr (slot_ne (Or.inl (hW 167 _ rfl)) (Or.inl (hW 67 _ rfl)) (by decide) (t := .long) (by decide) (t' := (.array (.object "java/lang/String"))) (by decide)))
  refine hG.st (fun t q => XS.aloadN S344.here hx rfl (hb hby own_d12_23) rfl rfl (XS.sipush S344.here hx rfl (hb hby own_d12_24) q)) ?_
  show G T344 (mkF m 27 #[rv a] [(.int 16384), (.ref a)])
  refine Own.Sit.newP hG S344 hx (aty := .byte) (hW 0 _ rfl) rfl (hb hby own_d12_27) rfl (by decide) (cap := 16384) (by decide) (by decide) (by decide) (by decide) (fun T373 h373 x373 k373 g_x373 S373 J373 Sf373 V373 => ?_)
  have lt_x373 := V373.lt
  have ga_x373 : Z.heap.size ≤ x373 := Nat.le_trans S344.le (Nat.le_of_eq g_x373.symm)
  have F374 := J373.fld F362 nin0
  have J375 : Own.Stp Z consts_1 vm0 h340 vm0 h373 [a] := Own.Stp.trans J344 J373 (allS (List.mem_of_getElem? (i := 0) rfl) (all0)) all0
  have E376 := J375.exa E343
  have F378 := J373.fld F359 nin0
  have F379 := J373.fld F360 nin0
  have F380 := J373.fld F344 nin0
  have F381 := J373.fld F361 nin0
  have F382 := J373.fld F363 nin0
  have F383 := J373.fld F364 nin0
  have F384 := J373.fld F365 nin0
  have F385 := J373.fld F366 nin0
  have F386 := J373.fld F367 nin0
  have F387 := J373.fld F368 nin0
  have F388 := J373.fld F369 nin0
  have F389 := J373.fld F370 nin0
  have F390 := J373.fld F371 nin0
  have F391 := J373.fld F372 nin0
  show G T373 (mkF m 29 #[rv a] [(.ref x373), (.ref a)])
  refine Own.Sit.putF hG S373 hx (host := "") (Or.inl (hW 68 _ rfl)) Via.refl F374 E376 (Or.inl (hW 69 _ rfl)) (hW 55 _ rfl) (ty := (.array .byte)) (by decide) rfl rfl g_a (Safe.exa S373.warm.alike E376 (by decide) (by decide)) rfl rfl (hb hby own_d12_29) (fun T377 h377 S377 J377 W377 F377 => ?_)
  have F392 := Fld.other W377 F378 (Or.inr (slot_ne (Or.inl (hW 63 _ rfl)) (Or.inl (hW 69 _ rfl)) (by decide) (t := (.array .int)) (by decide) (t' := (.array .byte)) (by decide)))
  have F393 := Fld.other W377 F379 (Or.inr (slot_ne (Or.inl (hW 80 _ rfl)) (Or.inl (hW 69 _ rfl)) (by decide) (t := .int) (by decide) (t' := (.array .byte)) (by decide)))
  have F394 := Fld.other W377 F380 (Or.inr (slot_ne (Or.inl (hW 67 _ rfl)) (Or.inl (hW 69 _ rfl)) (by decide) (t := (.array (.object "java/lang/String"))) (by decide) (t' := (.array .byte)) (by decide)))
  have F395 := Fld.other W377 F381 (Or.inr (slot_ne (Or.inl (hW 88 _ rfl)) (Or.inl (hW 69 _ rfl)) (by decide) (t := .int) (by decide) (t' := (.array .byte)) (by decide)))
  have F396 := Fld.other W377 F382 (Or.inr (slot_ne (Or.inl (hW 122 _ rfl)) (Or.inl (hW 69 _ rfl)) (by decide) (t := .int) (by decide) (t' := (.array .byte)) (by decide)))
  have F397 := Fld.other W377 F383 (Or.inr (slot_ne (Or.inl (hW 90 _ rfl)) (Or.inl (hW 69 _ rfl)) (by decide) (t := .long) (by decide) (t' := (.array .byte)) (by decide)))
  have F398 := Fld.other W377 F384 (Or.inr (slot_ne (Or.inl (hW 82 _ rfl)) (Or.inl (hW 69 _ rfl)) (by decide) (t := .int) (by decide) (t' := (.array .byte)) (by decide)))
  have F399 := Fld.other W377 F385 (Or.inr (slot_ne (Or.inl (hW 146 _ rfl)) (Or.inl (hW 69 _ rfl)) (by decide) (t := .int) (by decide) (t' := (.array .byte)) (by decide)))
  have F400 := Fld.other W377 F386 (Or.inr (slot_ne (Or.inl (hW 142 _ rfl)) (Or.inl (hW 69 _ rfl)) (by decide) (t := .int) (by decide) (t' := (.array .byte)) (by decide)))
  have F401 := Fld.other W377 F387 (Or.inr (slot_ne (Or.inl (hW 148 _ rfl)) (Or.inl (hW 69 _ rfl)) (by decide) (t := .int) (by decide) (t' := (.array .byte)) (by decide)))
  have F402 := Fld.other W377 F388 (Or.inr (slot_ne (Or.inl (hW 144 _ rfl)) (Or.inl (hW 69 _ rfl)) (by decide) (t := .long) (by decide) (t' := (.array .byte)) (by decide)))
  have F403 := Fld.other W377 F389 (Or.inr (slot_ne (Or.inl (hW 163 _ rfl)) (Or.inl (hW 69 _ rfl)) (by decide) (t := .long) (by decide) (t' := (.array .byte)) (by decide)))
  have F404 := Fld.other W377 F390 (Or.inr (slot_ne (Or.inl (hW 165 _ rfl)) (Or.inl (hW 69 _ rfl)) (by decide) (t := .long) (by decide) (t' := (.array .byte)) (by decide)))
  have F405 := Fld.other W377 F391 (Or.inr (slot_ne (Or.inl (hW 167 _ rfl)) (Or.inl (hW 69 _ rfl)) (by decide) (t := .long) (by decide) (t' := (.array .byte)) (by decide)))
  have J406 : Own.Stp Z consts_1 vm0 h0 vm0 h311 [a] := Own.Stp.trans J308 J311 (all0) (allS (Or.inl (List.mem_of_getElem? (i := 0) rfl)) all0)
  have J407 : Own.Stp Z consts_1 vm0 h0 vm0 h340 [a] := Own.Stp.trans J406 J340 (allS (List.mem_of_getElem? (i := 0) rfl) (all0)) all0
  have J408 : Own.Stp Z consts_1 vm0 h0 vm0 h344 [a] := Own.Stp.trans J407 J344 (allS (List.mem_of_getElem? (i := 0) rfl) (all0)) (allS (Or.inl (List.mem_of_getElem? (i := 0) rfl)) all0)
  have J409 : Own.Stp Z consts_1 vm0 h0 vm0 h373 [a] := Own.Stp.trans J408 J373 (allS (List.mem_of_getElem? (i := 0) rfl) (all0)) all0
  have J410 : Own.Stp Z consts_1 vm0 h0 vm0 h377 [a] := Own.Stp.trans J409 J377 (allS (List.mem_of_getElem? (i := 0) rfl) (all0)) (allS (Or.inl (List.mem_of_getElem? (i := 0) rfl)) all0)
  have E411 := J377.exa E376
  have J412 : Own.Stp Z consts_1 vm0 h308 vm0 h344 [a] := Own.Stp.trans J342 J344 (allS (List.mem_of_getElem? (i := 0) rfl) (all0)) (allS (Or.inl (List.mem_of_getElem? (i := 0) rfl)) all0)
  have J413 : Own.Stp Z consts_1 vm0 h308 vm0 h373 [a] := Own.Stp.trans J412 J373 (allS (List.mem_of_getElem? (i := 0) rfl) (all0)) all0
  have J414 : Own.Stp Z consts_1 vm0 h308 vm0 h377 [a] := Own.Stp.trans J413 J377 (allS (List.mem_of_getElem? (i := 0) rfl) (all0)) (allS (Or.inl (List.mem_of_getElem? (i := 0) rfl)) all0)
  have V415 := J414.arv V308 (ninS (Ne.symm (Nat.ne_of_lt (Nat.lt_of_lt_of_le E_a.lt (Nat.le_of_eq g_x308.symm)))) nin0)
  have J416 : Own.Stp Z consts_1 vm0 h340 vm0 h377 [a] := Own.Stp.trans J375 J377 (allS (List.mem_of_getElem? (i := 0) rfl) (all0)) (allS (Or.inl (List.mem_of_getElem? (i := 0) rfl)) all0)
  have V417 := J416.arv V340 (ninS (Ne.symm (Nat.ne_of_lt (Nat.lt_of_lt_of_le (Nat.lt_of_lt_of_le E_a.lt J406.1.1) (Nat.le_of_eq g_x340.symm)))) nin0)
  have V418 := J377.arv V373 (ninS (Ne.symm (Nat.ne_of_lt (Nat.lt_of_lt_of_le (Nat.lt_of_lt_of_le E_a.lt J408.1.1) (Nat.le_of_eq g_x373.symm)))) nin0)
  show G T377 (mkF m 32 #[rv a] [])
  exact Own.Sit.ret0 hR S377 hx hret (hb hby own_d12_32) (by decide) (by decide) ⟨J410.1, rfl, x308, x340, x373, _, _, _, ⟨E411, F392, F393, F394, F395, F377, F396, F397, F398, F399, F400, F401, F402, F403, F404, F405⟩, ⟨_, V415, by rw [List.length_replicate]; rfl⟩, ⟨V417, O340⟩, ⟨_, V418, by rw [List.length_replicate]; rfl⟩, (Nat.le_of_eq g_x308.symm), (Nat.le_trans J406.1.1 (Nat.le_of_eq g_x340.symm)), (Nat.le_trans J408.1.1 (Nat.le_of_eq g_x373.symm))⟩
theorem own_pn0ab23c : plainFor (⟨"com/example/scholiast/scholiast/XmlEvents", "start", "(Ljava/lang/String;Ljava/lang/String;)V"⟩ : MethodName) = true := by first | exact plainFor_of_name (by first | (simp [plainName, overriddenIn]; done) | decide +kernel) | decide +kernel
theorem own_pdab706b : parseMethodDescriptor "(Ljava/lang/String;)V" = some ⟨[(.object "java/lang/String")], none⟩ := by decide +kernel
theorem own_d13_0 : decode prog_53_method_3_code 0 = .ok (.aload_n 0, 1) := by decide +kernel
theorem own_d13_1 : decode prog_53_method_3_code 1 = .ok (.iconst 3, 1) := by decide +kernel
theorem own_d13_2 : decode prog_53_method_3_code 2 = .ok (.invokevirtual 31, 3) := by decide +kernel
theorem own_d13_5 : decode prog_53_method_3_code 5 = .ok (.aload_n 0, 1) := by decide +kernel
theorem own_d13_6 : decode prog_53_method_3_code 6 = .ok (.getfield 7, 3) := by decide +kernel
theorem own_d13_9 : decode prog_53_method_3_code 9 = .ok (.aload_n 0, 1) := by decide +kernel
theorem own_d13_10 : decode prog_53_method_3_code 10 = .ok (.dup, 1) := by decide +kernel
theorem own_d13_11 : decode prog_53_method_3_code 11 = .ok (.getfield 34, 3) := by decide +kernel
theorem own_d13_14 : decode prog_53_method_3_code 14 = .ok (.dup_x1, 1) := by decide +kernel
theorem own_d13_15 : decode prog_53_method_3_code 15 = .ok (.iconst 1, 1) := by decide +kernel
theorem own_d13_16 : decode prog_53_method_3_code 16 = .ok (.iadd, 1) := by decide +kernel
theorem own_d13_17 : decode prog_53_method_3_code 17 = .ok (.putfield 34, 3) := by decide +kernel
theorem own_d13_20 : decode prog_53_method_3_code 20 = .ok (.iconst 1, 1) := by decide +kernel
theorem own_d13_21 : decode prog_53_method_3_code 21 = .ok (.iastore, 1) := by decide +kernel
theorem own_d13_22 : decode prog_53_method_3_code 22 = .ok (.aload_n 0, 1) := by decide +kernel
theorem own_d13_23 : decode prog_53_method_3_code 23 = .ok (.aload_n 0, 1) := by decide +kernel
theorem own_d13_24 : decode prog_53_method_3_code 24 = .ok (.getfield 34, 3) := by decide +kernel
theorem own_d13_27 : decode prog_53_method_3_code 27 = .ok (.putfield 38, 3) := by decide +kernel
theorem own_d13_30 : decode prog_53_method_3_code 30 = .ok (.aload_n 0, 1) := by decide +kernel
theorem own_d13_31 : decode prog_53_method_3_code 31 = .ok (.getfield 7, 3) := by decide +kernel
theorem own_d13_34 : decode prog_53_method_3_code 34 = .ok (.aload_n 0, 1) := by decide +kernel
theorem own_d13_35 : decode prog_53_method_3_code 35 = .ok (.dup, 1) := by decide +kernel
theorem own_d13_36 : decode prog_53_method_3_code 36 = .ok (.getfield 34, 3) := by decide +kernel
theorem own_d13_39 : decode prog_53_method_3_code 39 = .ok (.dup_x1, 1) := by decide +kernel
theorem own_d13_40 : decode prog_53_method_3_code 40 = .ok (.iconst 1, 1) := by decide +kernel
theorem own_d13_41 : decode prog_53_method_3_code 41 = .ok (.iadd, 1) := by decide +kernel
theorem own_d13_42 : decode prog_53_method_3_code 42 = .ok (.putfield 34, 3) := by decide +kernel
theorem own_d13_45 : decode prog_53_method_3_code 45 = .ok (.iconst 0, 1) := by decide +kernel
theorem own_d13_46 : decode prog_53_method_3_code 46 = .ok (.iastore, 1) := by decide +kernel
theorem own_d13_47 : decode prog_53_method_3_code 47 = .ok (.aload_n 0, 1) := by decide +kernel
theorem own_d13_48 : decode prog_53_method_3_code 48 = .ok (.getfield 7, 3) := by decide +kernel
theorem own_d13_51 : decode prog_53_method_3_code 51 = .ok (.aload_n 0, 1) := by decide +kernel
theorem own_d13_52 : decode prog_53_method_3_code 52 = .ok (.dup, 1) := by decide +kernel
theorem own_d13_53 : decode prog_53_method_3_code 53 = .ok (.getfield 34, 3) := by decide +kernel
theorem own_d13_56 : decode prog_53_method_3_code 56 = .ok (.dup_x1, 1) := by decide +kernel
theorem own_d13_57 : decode prog_53_method_3_code 57 = .ok (.iconst 1, 1) := by decide +kernel
theorem own_d13_58 : decode prog_53_method_3_code 58 = .ok (.iadd, 1) := by decide +kernel
theorem own_d13_59 : decode prog_53_method_3_code 59 = .ok (.putfield 34, 3) := by decide +kernel
theorem own_d13_62 : decode prog_53_method_3_code 62 = .ok (.iconst 0, 1) := by decide +kernel
theorem own_d13_63 : decode prog_53_method_3_code 63 = .ok (.iastore, 1) := by decide +kernel
theorem own_d13_64 : decode prog_53_method_3_code 64 = .ok (.aload_n 0, 1) := by decide +kernel
theorem own_d13_65 : decode prog_53_method_3_code 65 = .ok (.aload_n 1, 1) := by decide +kernel
theorem own_d13_66 : decode prog_53_method_3_code 66 = .ok (.invokevirtual 27, 3) := by decide +kernel
theorem own_d13_69 : decode prog_53_method_3_code 69 = .ok (.aload_n 0, 1) := by decide +kernel
theorem own_d13_70 : decode prog_53_method_3_code 70 = .ok (.aload_n 2, 1) := by decide +kernel
theorem own_d13_71 : decode prog_53_method_3_code 71 = .ok (.invokevirtual 27, 3) := by decide +kernel
theorem own_d13_74 : decode prog_53_method_3_code 74 = .ok (.return_, 1) := by decide +kernel
theorem own_ef_own_start (m : MethodId) (a : Addr) (s1 : Value) (s2 : Value) (h_s1 : s1.isRef = true) (h_s2 : s2.isRef = true) : entryFrame m #[(.ref a), s1, s2] 3 = mkF m 0 #[rv a, .val s1, .val s2] [] := by
  all_goals rcases ref_cases h_s1 with rfl | ⟨_, rfl⟩
  all_goals rcases ref_cases h_s2 with rfl | ⟨_, rfl⟩
  all_goals first | (simp [entryFrame, mkF, argsToLocals, Value.category]; done) | rfl
set_option maxRecDepth 65536 in
set_option maxHeartbeats 40000000 in
theorem own_start (l : Launch) (Z : State) (a0 : Array Value) (H : own_Wld Z a0) {cw : List Jvm.Cond} (a : Addr) (s1 : Value) (s2 : Value) (o : Addr) (st : Addr) (bt : Addr) (bc : Int32) (ch : Int64) (lst : Int32) (ro : Int32) (rs : Int32) (rb : Int32) (rch : Int64) (ob : Int64) (sb : Int64) (bb : Int64) (n_s1 : Int32) (n_s2 : Int32) (B : Nat) (h0 : Heap) (O0 : Ext Z.heap h0) (OB : own_Ob Z h0 a o 0 st 0 bt bc ch lst ro rs rb rch ob sb bb) {ko : ClassId} (IA : own_IA Z h0 o ko) {ks : ClassId} {sl : List Value} (SA : own_SA Z h0 st ks sl) (hsl : sl.length = 0) (N_s1 : own_NS Z h0 B s1 n_s1) (N_s2 : own_NS Z h0 B s2 n_s2) (ba : B ≤ a) (bo : B ≤ o) (bs : B ≤ st) (bb_ : B ≤ bt) (g_a : Z.heap.size ≤ a) (g_o : Z.heap.size ≤ o) (g_s : Z.heap.size ≤ st) (g_b : Z.heap.size ≤ bt) :
    Own.Con l Z consts_1 (⟨"com/example/scholiast/scholiast/XmlEvents", "start", "(Ljava/lang/String;Ljava/lang/String;)V"⟩ : MethodName) prog_53_method_3_code 3 none cw ({ frames := 4, cells := 0, slots := 0, locals := 53 } : Room) #[(.ref a), s1, s2] h0 (fun v h => Keep h0 h [a, o, st] ∧ v = none ∧ own_Ob Z h a o 3 st 2 bt bc ((ch + n_s1.toInt64) + n_s2.toInt64) 1 ro rs rb rch ob sb bb ∧ own_IA Z h o ko ∧ own_SA Z h st ks ((sl ++ [s1]) ++ [s2])) := by
  have hw := H.1
  have hW := fun (i : Nat) (w : Jvm.Cond) (e : tables_1[i]? = some w) => hw w (List.mem_of_getElem? e)
  have hCm := H.2.1
  have hSi := H.2.2.1
  have hEL := H.2.2.2
  have hWs : ∀ d ∈ StrChars.Road.words, d.before a0 Z = true := fun d hd => hw d (own_wbackV d hd)
  have hWl : ∀ d ∈ StrChars.Road.wordsLen, d.before a0 Z = true := fun d hd => hw d (own_wlenW d hd)
  have hSA : ∀ d ∈ Bundle.stringAtoms, d.before a0 Z = true := fun d hd => hw d (own_wSA d hd)
  refine Own.Con.of own_pn0ab23c hEL O0 ?_
  intro p e s m below meth c T0 G vm0 hx hby hml hret hnm hG hR S0
  have hz : ∀ L : Array Slot, L.size = 3 → L.size = c.maxLocals := fun L q => q.trans hml.symm
  rw [own_ef_own_start _ _ _ _ (own_NS.ref N_s1) (own_NS.ref N_s2)]
  show G T0 (mkF m 0 #[rv a, .val s1, .val s2] [])
  obtain ⟨E_a419, F419_o, F419_oc, F419_st, F419_sc, F419_bt, F419_bc, F419_ch, F419_lst, F419_ro, F419_rs, F419_rb, F419_rch, F419_ob, F419_sb, F419_bb⟩ := id OB
  obtain ⟨ol, Ao, lo⟩ := id IA
  obtain ⟨As, hOv⟩ := id SA
  refine hG.st (fun t q => XS.aloadN S0.here hx rfl (hb hby own_d13_0) rfl rfl (XS.iconst S0.here hx rfl (hb hby own_d13_1) q)) ?_
  show G T0 (mkF m 2 #[rv a, .val s1, .val s2] [(.int 3), (.ref a)])
  have OB420 : own_Ob Z h0 a o (0 : Int32) st (0 : Int32) bt bc ch lst ro rs rb rch ob sb bb := ⟨E_a419, F419_o, F419_oc, F419_st, F419_sc, F419_bt, F419_bc, F419_ch, F419_lst, F419_ro, F419_rs, F419_rb, F419_rch, F419_ob, F419_sb, F419_bb⟩
  refine Own.Sit.callP hG S0 hx hEL (as := [(.int 3)]) (hW 75 _ rfl) (hW 77 _ rfl) (hW 55 _ rfl) (hW 76 _ rfl) (hW 56 _ rfl) (hW 78 _ rfl) (by decide) E_a419 (own_eo3 l Z a0 H a o (0 : Int32) st (0 : Int32) bt bc ch lst ro rs rb rch ob sb bb h0 S0.old OB420 ⟨_, Ao, lo⟩ (by decide)) own_pdc76b35 rfl rfl (hz _ rfl) (rest := []) rfl (W := 0) (Own.hw0 rfl rfl) (hb hby own_d13_2) (by decide) (by decide) (by decide) (by decide) (fun v421 vm421 T421 h421 S421 C421 q421 => ?_)
  obtain ⟨K421, rfl⟩ := q421
  have J421 : Own.Stp Z consts_1 vm0 h0 vm421 h421 [] := ⟨K421, C421⟩
  refine hG.st (fun t q => XS.aloadN S421.here hx rfl (hb hby own_d13_5) rfl rfl q) ?_
  show G T421 (mkF m 6 #[rv a, .val s1, .val s2] [(.ref a)])
  have F422 := J421.fld F419_o nin0
  refine Own.Sit.getF hG S421 hx (host := "") (Or.inl (hW 62 _ rfl)) Via.refl F422 rfl rfl (hb hby own_d13_6) (fun T423 S423 => ?_)
  refine hG.st (fun t q => XS.aloadN S423.here hx rfl (hb hby own_d13_9) rfl rfl (XS.dup S423.here hx rfl (hb hby own_d13_10) rfl rfl q)) ?_
  show G T423 (mkF m 11 #[rv a, .val s1, .val s2] [(.ref a), (.ref a), (.ref o)])
  have F424 := J421.fld F419_oc nin0
  refine Own.Sit.getF hG S423 hx (host := "") (Or.inl (hW 79 _ rfl)) Via.refl F424 rfl rfl (hb hby own_d13_11) (fun T425 S425 => ?_)
  refine hG.st (fun t q => XS.dupX1 S425.here hx rfl (hb hby own_d13_14) rfl rfl rfl (XS.iconst S425.here hx rfl (hb hby own_d13_15) (XS.iadd S425.here hx rfl (hb hby own_d13_16) rfl q))) ?_
  show G T425 (mkF m 17 #[rv a, .val s1, .val s2] [(.int 1), (.ref a), (.int 0), (.ref o)])
  have E426 := J421.exa E_a419
  have F428 := J421.fld F419_st nin0
  have F429 := J421.fld F419_sc nin0
  have F430 := J421.fld F419_bt nin0
  have F431 := J421.fld F419_bc nin0
  have F432 := J421.fld F419_ch nin0
  have F433 := J421.fld F419_lst nin0
  have F434 := J421.fld F419_ro nin0
  have F435 := J421.fld F419_rs nin0
  have F436 := J421.fld F419_rb nin0
  have F437 := J421.fld F419_rch nin0
  have F438 := J421.fld F419_ob nin0
  have F439 := J421.fld F419_sb nin0
  have F440 := J421.fld F419_bb nin0
  refine Own.Sit.putF hG S425 hx (host := "") (Or.inl (hW 79 _ rfl)) Via.refl F424 E426 (Or.inl (hW 80 _ rfl)) (hW 55 _ rfl) (ty := .int) (by decide) rfl rfl g_a (Safe.exa S425.warm.alike E426 (by decide) (by decide)) rfl rfl (hb hby own_d13_17) (fun T427 h427 S427 J427 W427 F427 => ?_)
  have F441 := Fld.other W427 F422 (Or.inr (slot_ne (Or.inl (hW 63 _ rfl)) (Or.inl (hW 80 _ rfl)) (by decide) (t := (.array .int)) (by decide) (t' := .int) (by decide)))
  have F442 := Fld.other W427 F428 (Or.inr (slot_ne (Or.inl (hW 67 _ rfl)) (Or.inl (hW 80 _ rfl)) (by decide) (t := (.array (.object "java/lang/String"))) (by decide) (t' := .int) (by decide)))
  have F443 := Fld.other W427 F429 (Or.inr (slot_ne (Or.inl (hW 88 _ rfl)) (Or.inl (hW 80 _ rfl)) (by decide) (t := .int) (by decide) (t' := .int) (by decide)))
  have F444 := Fld.other W427 F430 (Or.inr (slot_ne (Or.inl (hW 69 _ rfl)) (Or.inl (hW 80 _ rfl)) (by decide) (t := (.array .byte)) (by decide) (t' := .int) (by decide)))
  have F445 := Fld.other W427 F431 (Or.inr (slot_ne (Or.inl (hW 122 _ rfl)) (Or.inl (hW 80 _ rfl)) (by decide) (t := .int) (by decide) (t' := .int) (by decide)))
  have F446 := Fld.other W427 F432 (Or.inr (slot_ne (Or.inl (hW 90 _ rfl)) (Or.inl (hW 80 _ rfl)) (by decide) (t := .long) (by decide) (t' := .int) (by decide)))
  have F447 := Fld.other W427 F433 (Or.inr (slot_ne (Or.inl (hW 82 _ rfl)) (Or.inl (hW 80 _ rfl)) (by decide) (t := .int) (by decide) (t' := .int) (by decide)))
  have F448 := Fld.other W427 F434 (Or.inr (slot_ne (Or.inl (hW 146 _ rfl)) (Or.inl (hW 80 _ rfl)) (by decide) (t := .int) (by decide) (t' := .int) (by decide)))
  have F449 := Fld.other W427 F435 (Or.inr (slot_ne (Or.inl (hW 142 _ rfl)) (Or.inl (hW 80 _ rfl)) (by decide) (t := .int) (by decide) (t' := .int) (by decide)))
  have F450 := Fld.other W427 F436 (Or.inr (slot_ne (Or.inl (hW 148 _ rfl)) (Or.inl (hW 80 _ rfl)) (by decide) (t := .int) (by decide) (t' := .int) (by decide)))
  have F451 := Fld.other W427 F437 (Or.inr (slot_ne (Or.inl (hW 144 _ rfl)) (Or.inl (hW 80 _ rfl)) (by decide) (t := .long) (by decide) (t' := .int) (by decide)))
  have F452 := Fld.other W427 F438 (Or.inr (slot_ne (Or.inl (hW 163 _ rfl)) (Or.inl (hW 80 _ rfl)) (by decide) (t := .long) (by decide) (t' := .int) (by decide)))
  have F453 := Fld.other W427 F439 (Or.inr (slot_ne (Or.inl (hW 165 _ rfl)) (Or.inl (hW 80 _ rfl)) (by decide) (t := .long) (by decide) (t' := .int) (by decide)))
  have F454 := Fld.other W427 F440 (Or.inr (slot_ne (Or.inl (hW 167 _ rfl)) (Or.inl (hW 80 _ rfl)) (by decide) (t := .long) (by decide) (t' := .int) (by decide)))
  refine hG.st (fun t q => XS.iconst S427.here hx rfl (hb hby own_d13_20) q) ?_
  show G T427 (mkF m 21 #[rv a, .val s1, .val s2] [(.int 1), (.int 0), (.ref o)])
  have J455 : Own.Stp Z consts_1 vm0 h0 vm421 h427 [a] := Own.Stp.trans J421 J427 (all0) (allS (Or.inl (List.mem_of_getElem? (i := 0) rfl)) all0)
  have V456 := J455.arv Ao (ninS (Ne.symm (Exa.neArv E_a419 Ao (hW 55 _ rfl))) nin0)
  refine Own.Sit.stI hG S427 hx V456 g_o ⟨by decide, by decide⟩ (0 : Int32).toNatClampNeg rfl (by rw [lo]; exact own_cl ⟨by decide, by decide⟩) rfl rfl (hb hby own_d13_21) (fun T457 h457 S457 J457 V457 => ?_)
  obtain ⟨ol457, Ao457, lo457⟩ : own_IA Z h457 o ko := ⟨_, V457, by rw [List.length_set]; exact lo⟩
  refine hG.st (fun t q => XS.aloadN S457.here hx rfl (hb hby own_d13_22) rfl rfl (XS.aloadN S457.here hx rfl (hb hby own_d13_23) rfl rfl q)) ?_
  show G T457 (mkF m 24 #[rv a, .val s1, .val s2] [(.ref a), (.ref a)])
  have J459 : Own.Stp Z consts_1 vm0 h0 vm421 h457 [a, o] := Own.Stp.trans J455 J457 (allS (List.mem_of_getElem? (i := 0) rfl) (all0)) (allS (Or.inl (List.mem_of_getElem? (i := 1) rfl)) all0)
  have F458 := J457.fld F427 (ninS (Exa.neArv (J459.exa E_a419) Ao457 (hW 55 _ rfl)) nin0)
  refine Own.Sit.getF hG S457 hx (host := "") (Or.inl (hW 79 _ rfl)) Via.refl F458 rfl rfl (hb hby own_d13_24) (fun T460 S460 => ?_)
  have F461 := J457.fld F447 (ninS (Exa.neArv (J459.exa E_a419) Ao457 (hW 55 _ rfl)) nin0)
  have J462 : Own.Stp Z consts_1 vm421 h421 vm421 h457 [a, o] := Own.Stp.trans J427 J457 (allS (List.mem_of_getElem? (i := 0) rfl) (all0)) (allS (Or.inl (List.mem_of_getElem? (i := 1) rfl)) all0)
  have E463 := J462.exa E426
  have F465 := J457.fld F441 (ninS (Exa.neArv (J459.exa E_a419) Ao457 (hW 55 _ rfl)) nin0)
  have F466 := J457.fld F442 (ninS (Exa.neArv (J459.exa E_a419) Ao457 (hW 55 _ rfl)) nin0)
  have F467 := J457.fld F443 (ninS (Exa.neArv (J459.exa E_a419) Ao457 (hW 55 _ rfl)) nin0)
  have F468 := J457.fld F444 (ninS (Exa.neArv (J459.exa E_a419) Ao457 (hW 55 _ rfl)) nin0)
  have F469 := J457.fld F445 (ninS (Exa.neArv (J459.exa E_a419) Ao457 (hW 55 _ rfl)) nin0)
  have F470 := J457.fld F446 (ninS (Exa.neArv (J459.exa E_a419) Ao457 (hW 55 _ rfl)) nin0)
  have F471 := J457.fld F448 (ninS (Exa.neArv (J459.exa E_a419) Ao457 (hW 55 _ rfl)) nin0)
  have F472 := J457.fld F449 (ninS (Exa.neArv (J459.exa E_a419) Ao457 (hW 55 _ rfl)) nin0)
  have F473 := J457.fld F450 (ninS (Exa.neArv (J459.exa E_a419) Ao457 (hW 55 _ rfl)) nin0)
  have F474 := J457.fld F451 (ninS (Exa.neArv (J459.exa E_a419) Ao457 (hW 55 _ rfl)) nin0)
  have F475 := J457.fld F452 (ninS (Exa.neArv (J459.exa E_a419) Ao457 (hW 55 _ rfl)) nin0)
  have F476 := J457.fld F453 (ninS (Exa.neArv (J459.exa E_a419) Ao457 (hW 55 _ rfl)) nin0)
  have F477 := J457.fld F454 (ninS (Exa.neArv (J459.exa E_a419) Ao457 (hW 55 _ rfl)) nin0)
  show G T460 (mkF m 27 #[rv a, .val s1, .val s2] [(.int 1), (.ref a)])
  refine Own.Sit.putF hG S460 hx (host := "") (Or.inl (hW 81 _ rfl)) Via.refl F461 E463 (Or.inl (hW 82 _ rfl)) (hW 55 _ rfl) (ty := .int) (by decide) rfl rfl g_a (Safe.exa S460.warm.alike E463 (by decide) (by decide)) rfl rfl (hb hby own_d13_27) (fun T464 h464 S464 J464 W464 F464 => ?_)
  have F478 := Fld.other W464 F465 (Or.inr (slot_ne (Or.inl (hW 63 _ rfl)) (Or.inl (hW 82 _ rfl)) (by decide) (t := (.array .int)) (by decide) (t' := .int) (by decide)))
  have F479 := Fld.other W464 F458 (Or.inr (slot_ne (Or.inl (hW 80 _ rfl)) (Or.inl (hW 82 _ rfl)) (by decide) (t := .int) (by decide) (t' := .int) (by decide)))
  have F480 := Fld.other W464 F466 (Or.inr (slot_ne (Or.inl (hW 67 _ rfl)) (Or.inl (hW 82 _ rfl)) (by decide) (t := (.array (.object "java/lang/String"))) (by decide) (t' := .int) (by decide)))
  have F481 := Fld.other W464 F467 (Or.inr (slot_ne (Or.inl (hW 88 _ rfl)) (Or.inl (hW 82 _ rfl)) (by decide) (t := .int) (by decide) (t' := .int) (by decide)))
  have F482 := Fld.other W464 F468 (Or.inr (slot_ne (Or.inl (hW 69 _ rfl)) (Or.inl (hW 82 _ rfl)) (by decide) (t := (.array .byte)) (by decide) (t' := .int) (by decide)))
  have F483 := Fld.other W464 F469 (Or.inr (slot_ne (Or.inl (hW 122 _ rfl)) (Or.inl (hW 82 _ rfl)) (by decide) (t := .int) (by decide) (t' := .int) (by decide)))
  have F484 := Fld.other W464 F470 (Or.inr (slot_ne (Or.inl (hW 90 _ rfl)) (Or.inl (hW 82 _ rfl)) (by decide) (t := .long) (by decide) (t' := .int) (by decide)))
  have F485 := Fld.other W464 F471 (Or.inr (slot_ne (Or.inl (hW 146 _ rfl)) (Or.inl (hW 82 _ rfl)) (by decide) (t := .int) (by decide) (t' := .int) (by decide)))
  have F486 := Fld.other W464 F472 (Or.inr (slot_ne (Or.inl (hW 142 _ rfl)) (Or.inl (hW 82 _ rfl)) (by decide) (t := .int) (by decide) (t' := .int) (by decide)))
  have F487 := Fld.other W464 F473 (Or.inr (slot_ne (Or.inl (hW 148 _ rfl)) (Or.inl (hW 82 _ rfl)) (by decide) (t := .int) (by decide) (t' := .int) (by decide)))
  have F488 := Fld.other W464 F474 (Or.inr (slot_ne (Or.inl (hW 144 _ rfl)) (Or.inl (hW 82 _ rfl)) (by decide) (t := .long) (by decide) (t' := .int) (by decide)))
  have F489 := Fld.other W464 F475 (Or.inr (slot_ne (Or.inl (hW 163 _ rfl)) (Or.inl (hW 82 _ rfl)) (by decide) (t := .long) (by decide) (t' := .int) (by decide)))
  have F490 := Fld.other W464 F476 (Or.inr (slot_ne (Or.inl (hW 165 _ rfl)) (Or.inl (hW 82 _ rfl)) (by decide) (t := .long) (by decide) (t' := .int) (by decide)))
  have F491 := Fld.other W464 F477 (Or.inr (slot_ne (Or.inl (hW 167 _ rfl)) (Or.inl (hW 82 _ rfl)) (by decide) (t := .long) (by decide) (t' := .int) (by decide)))
  refine hG.st (fun t q => XS.aloadN S464.here hx rfl (hb hby own_d13_30) rfl rfl q) ?_
  show G T464 (mkF m 31 #[rv a, .val s1, .val s2] [(.ref a)])
  refine Own.Sit.getF hG S464 hx (host := "") (Or.inl (hW 62 _ rfl)) Via.refl F478 rfl rfl (hb hby own_d13_31) (fun T492 S492 => ?_)
  refine hG.st (fun t q => XS.aloadN S492.here hx rfl (hb hby own_d13_34) rfl rfl (XS.dup S492.here hx rfl (hb hby own_d13_35) rfl rfl q)) ?_
  show G T492 (mkF m 36 #[rv a, .val s1, .val s2] [(.ref a), (.ref a), (.ref o)])
  refine Own.Sit.getF hG S492 hx (host := "") (Or.inl (hW 79 _ rfl)) Via.refl F479 rfl rfl (hb hby own_d13_36) (fun T493 S493 => ?_)
  refine hG.st (fun t q => XS.dupX1 S493.here hx rfl (hb hby own_d13_39) rfl rfl rfl (XS.iconst S493.here hx rfl (hb hby own_d13_40) (XS.iadd S493.here hx rfl (hb hby own_d13_41) rfl q))) ?_
  show G T493 (mkF m 42 #[rv a, .val s1, .val s2] [(.int 2), (.ref a), (.int 1), (.ref o)])
  have E494 := J464.exa E463
  refine Own.Sit.putF hG S493 hx (host := "") (Or.inl (hW 79 _ rfl)) Via.refl F479 E494 (Or.inl (hW 80 _ rfl)) (hW 55 _ rfl) (ty := .int) (by decide) rfl rfl g_a (Safe.exa S493.warm.alike E494 (by decide) (by decide)) rfl rfl (hb hby own_d13_42) (fun T495 h495 S495 J495 W495 F495 => ?_)
  have F496 := Fld.other W495 F478 (Or.inr (slot_ne (Or.inl (hW 63 _ rfl)) (Or.inl (hW 80 _ rfl)) (by decide) (t := (.array .int)) (by decide) (t' := .int) (by decide)))
  have F497 := Fld.other W495 F480 (Or.inr (slot_ne (Or.inl (hW 67 _ rfl)) (Or.inl (hW 80 _ rfl)) (by decide) (t := (.array (.object "java/lang/String"))) (by decide) (t' := .int) (by decide)))
  have F498 := Fld.other W495 F481 (Or.inr (slot_ne (Or.inl (hW 88 _ rfl)) (Or.inl (hW 80 _ rfl)) (by decide) (t := .int) (by decide) (t' := .int) (by decide)))
  have F499 := Fld.other W495 F482 (Or.inr (slot_ne (Or.inl (hW 69 _ rfl)) (Or.inl (hW 80 _ rfl)) (by decide) (t := (.array .byte)) (by decide) (t' := .int) (by decide)))
  have F500 := Fld.other W495 F483 (Or.inr (slot_ne (Or.inl (hW 122 _ rfl)) (Or.inl (hW 80 _ rfl)) (by decide) (t := .int) (by decide) (t' := .int) (by decide)))
  have F501 := Fld.other W495 F484 (Or.inr (slot_ne (Or.inl (hW 90 _ rfl)) (Or.inl (hW 80 _ rfl)) (by decide) (t := .long) (by decide) (t' := .int) (by decide)))
  have F502 := Fld.other W495 F464 (Or.inr (slot_ne (Or.inl (hW 82 _ rfl)) (Or.inl (hW 80 _ rfl)) (by decide) (t := .int) (by decide) (t' := .int) (by decide)))
  have F503 := Fld.other W495 F485 (Or.inr (slot_ne (Or.inl (hW 146 _ rfl)) (Or.inl (hW 80 _ rfl)) (by decide) (t := .int) (by decide) (t' := .int) (by decide)))
  have F504 := Fld.other W495 F486 (Or.inr (slot_ne (Or.inl (hW 142 _ rfl)) (Or.inl (hW 80 _ rfl)) (by decide) (t := .int) (by decide) (t' := .int) (by decide)))
  have F505 := Fld.other W495 F487 (Or.inr (slot_ne (Or.inl (hW 148 _ rfl)) (Or.inl (hW 80 _ rfl)) (by decide) (t := .int) (by decide) (t' := .int) (by decide)))
  have F506 := Fld.other W495 F488 (Or.inr (slot_ne (Or.inl (hW 144 _ rfl)) (Or.inl (hW 80 _ rfl)) (by decide) (t := .long) (by decide) (t' := .int) (by decide)))
  have F507 := Fld.other W495 F489 (Or.inr (slot_ne (Or.inl (hW 163 _ rfl)) (Or.inl (hW 80 _ rfl)) (by decide) (t := .long) (by decide) (t' := .int) (by decide)))
  have F508 := Fld.other W495 F490 (Or.inr (slot_ne (Or.inl (hW 165 _ rfl)) (Or.inl (hW 80 _ rfl)) (by decide) (t := .long) (by decide) (t' := .int) (by decide)))
  have F509 := Fld.other W495 F491 (Or.inr (slot_ne (Or.inl (hW 167 _ rfl)) (Or.inl (hW 80 _ rfl)) (by decide) (t := .long) (by decide) (t' := .int) (by decide)))
  refine hG.st (fun t q => XS.iconst S495.here hx rfl (hb hby own_d13_45) q) ?_
  show G T495 (mkF m 46 #[rv a, .val s1, .val s2] [(.int 0), (.int 1), (.ref o)])
  have J510 : Own.Stp Z consts_1 vm421 h457 vm421 h495 [a] := Own.Stp.trans J464 J495 (allS (List.mem_of_getElem? (i := 0) rfl) (all0)) (allS (Or.inl (List.mem_of_getElem? (i := 0) rfl)) all0)
  have V511 := J510.arv Ao457 (ninS (Ne.symm (Exa.neArv (J459.exa E_a419) Ao457 (hW 55 _ rfl))) nin0)
  refine Own.Sit.stI hG S495 hx V511 g_o ⟨by decide, by decide⟩ (1 : Int32).toNatClampNeg rfl (by rw [lo457]; exact own_cl ⟨by decide, by decide⟩) rfl rfl (hb hby own_d13_46) (fun T512 h512 S512 J512 V512 => ?_)
  obtain ⟨ol512, Ao512, lo512⟩ : own_IA Z h512 o ko := ⟨_, V512, by rw [List.length_set]; exact lo457⟩
  refine hG.st (fun t q => XS.aloadN S512.here hx rfl (hb hby own_d13_47) rfl rfl q) ?_
  show G T512 (mkF m 48 #[rv a, .val s1, .val s2] [(.ref a)])
  have J514 : Own.Stp Z consts_1 vm0 h0 vm421 h464 [a, o] := Own.Stp.trans J459 J464 (allS (List.mem_of_getElem? (i := 0) rfl) (allS (List.mem_of_getElem? (i := 1) rfl) (all0))) (allS (Or.inl (List.mem_of_getElem? (i := 0) rfl)) all0)
  have J515 : Own.Stp Z consts_1 vm0 h0 vm421 h495 [a, o] := Own.Stp.trans J514 J495 (allS (List.mem_of_getElem? (i := 0) rfl) (allS (List.mem_of_getElem? (i := 1) rfl) (all0))) (allS (Or.inl (List.mem_of_getElem? (i := 0) rfl)) all0)
  have J516 : Own.Stp Z consts_1 vm0 h0 vm421 h512 [a, o] := Own.Stp.trans J515 J512 (allS (List.mem_of_getElem? (i := 0) rfl) (allS (List.mem_of_getElem? (i := 1) rfl) (all0))) (allS (Or.inl (List.mem_of_getElem? (i := 1) rfl)) all0)
  have F513 := J512.fld F496 (ninS (Exa.neArv (J516.exa E_a419) Ao512 (hW 55 _ rfl)) nin0)
  refine Own.Sit.getF hG S512 hx (host := "") (Or.inl (hW 62 _ rfl)) Via.refl F513 rfl rfl (hb hby own_d13_48) (fun T517 S517 => ?_)
  refine hG.st (fun t q => XS.aloadN S517.here hx rfl (hb hby own_d13_51) rfl rfl (XS.dup S517.here hx rfl (hb hby own_d13_52) rfl rfl q)) ?_
  show G T517 (mkF m 53 #[rv a, .val s1, .val s2] [(.ref a), (.ref a), (.ref o)])
  have F518 := J512.fld F495 (ninS (Exa.neArv (J516.exa E_a419) Ao512 (hW 55 _ rfl)) nin0)
  refine Own.Sit.getF hG S517 hx (host := "") (Or.inl (hW 79 _ rfl)) Via.refl F518 rfl rfl (hb hby own_d13_53) (fun T519 S519 => ?_)
  refine hG.st (fun t q => XS.dupX1 S519.here hx rfl (hb hby own_d13_56) rfl rfl rfl (XS.iconst S519.here hx rfl (hb hby own_d13_57) (XS.iadd S519.here hx rfl (hb hby own_d13_58) rfl q))) ?_
  show G T519 (mkF m 59 #[rv a, .val s1, .val s2] [(.int 3), (.ref a), (.int 2), (.ref o)])
  have J520 : Own.Stp Z consts_1 vm421 h464 vm421 h512 [a, o] := Own.Stp.trans J495 J512 (allS (List.mem_of_getElem? (i := 0) rfl) (all0)) (allS (Or.inl (List.mem_of_getElem? (i := 1) rfl)) all0)
  have E521 := J520.exa E494
  have F523 := J512.fld F497 (ninS (Exa.neArv (J516.exa E_a419) Ao512 (hW 55 _ rfl)) nin0)
  have F524 := J512.fld F498 (ninS (Exa.neArv (J516.exa E_a419) Ao512 (hW 55 _ rfl)) nin0)
  have F525 := J512.fld F499 (ninS (Exa.neArv (J516.exa E_a419) Ao512 (hW 55 _ rfl)) nin0)
  have F526 := J512.fld F500 (ninS (Exa.neArv (J516.exa E_a419) Ao512 (hW 55 _ rfl)) nin0)
  have F527 := J512.fld F501 (ninS (Exa.neArv (J516.exa E_a419) Ao512 (hW 55 _ rfl)) nin0)
  have F528 := J512.fld F502 (ninS (Exa.neArv (J516.exa E_a419) Ao512 (hW 55 _ rfl)) nin0)
  have F529 := J512.fld F503 (ninS (Exa.neArv (J516.exa E_a419) Ao512 (hW 55 _ rfl)) nin0)
  have F530 := J512.fld F504 (ninS (Exa.neArv (J516.exa E_a419) Ao512 (hW 55 _ rfl)) nin0)
  have F531 := J512.fld F505 (ninS (Exa.neArv (J516.exa E_a419) Ao512 (hW 55 _ rfl)) nin0)
  have F532 := J512.fld F506 (ninS (Exa.neArv (J516.exa E_a419) Ao512 (hW 55 _ rfl)) nin0)
  have F533 := J512.fld F507 (ninS (Exa.neArv (J516.exa E_a419) Ao512 (hW 55 _ rfl)) nin0)
  have F534 := J512.fld F508 (ninS (Exa.neArv (J516.exa E_a419) Ao512 (hW 55 _ rfl)) nin0)
  have F535 := J512.fld F509 (ninS (Exa.neArv (J516.exa E_a419) Ao512 (hW 55 _ rfl)) nin0)
  refine Own.Sit.putF hG S519 hx (host := "") (Or.inl (hW 79 _ rfl)) Via.refl F518 E521 (Or.inl (hW 80 _ rfl)) (hW 55 _ rfl) (ty := .int) (by decide) rfl rfl g_a (Safe.exa S519.warm.alike E521 (by decide) (by decide)) rfl rfl (hb hby own_d13_59) (fun T522 h522 S522 J522 W522 F522 => ?_)
  have F536 := Fld.other W522 F513 (Or.inr (slot_ne (Or.inl (hW 63 _ rfl)) (Or.inl (hW 80 _ rfl)) (by decide) (t := (.array .int)) (by decide) (t' := .int) (by decide)))
  have F537 := Fld.other W522 F523 (Or.inr (slot_ne (Or.inl (hW 67 _ rfl)) (Or.inl (hW 80 _ rfl)) (by decide) (t := (.array (.object "java/lang/String"))) (by decide) (t' := .int) (by decide)))
  have F538 := Fld.other W522 F524 (Or.inr (slot_ne (Or.inl (hW 88 _ rfl)) (Or.inl (hW 80 _ rfl)) (by decide) (t := .int) (by decide) (t' := .int) (by decide)))
  have F539 := Fld.other W522 F525 (Or.inr (slot_ne (Or.inl (hW 69 _ rfl)) (Or.inl (hW 80 _ rfl)) (by decide) (t := (.array .byte)) (by decide) (t' := .int) (by decide)))
  have F540 := Fld.other W522 F526 (Or.inr (slot_ne (Or.inl (hW 122 _ rfl)) (Or.inl (hW 80 _ rfl)) (by decide) (t := .int) (by decide) (t' := .int) (by decide)))
  have F541 := Fld.other W522 F527 (Or.inr (slot_ne (Or.inl (hW 90 _ rfl)) (Or.inl (hW 80 _ rfl)) (by decide) (t := .long) (by decide) (t' := .int) (by decide)))
  have F542 := Fld.other W522 F528 (Or.inr (slot_ne (Or.inl (hW 82 _ rfl)) (Or.inl (hW 80 _ rfl)) (by decide) (t := .int) (by decide) (t' := .int) (by decide)))
  have F543 := Fld.other W522 F529 (Or.inr (slot_ne (Or.inl (hW 146 _ rfl)) (Or.inl (hW 80 _ rfl)) (by decide) (t := .int) (by decide) (t' := .int) (by decide)))
  have F544 := Fld.other W522 F530 (Or.inr (slot_ne (Or.inl (hW 142 _ rfl)) (Or.inl (hW 80 _ rfl)) (by decide) (t := .int) (by decide) (t' := .int) (by decide)))
  have F545 := Fld.other W522 F531 (Or.inr (slot_ne (Or.inl (hW 148 _ rfl)) (Or.inl (hW 80 _ rfl)) (by decide) (t := .int) (by decide) (t' := .int) (by decide)))
  have F546 := Fld.other W522 F532 (Or.inr (slot_ne (Or.inl (hW 144 _ rfl)) (Or.inl (hW 80 _ rfl)) (by decide) (t := .long) (by decide) (t' := .int) (by decide)))
  have F547 := Fld.other W522 F533 (Or.inr (slot_ne (Or.inl (hW 163 _ rfl)) (Or.inl (hW 80 _ rfl)) (by decide) (t := .long) (by decide) (t' := .int) (by decide)))
  have F548 := Fld.other W522 F534 (Or.inr (slot_ne (Or.inl (hW 165 _ rfl)) (Or.inl (hW 80 _ rfl)) (by decide) (t := .long) (by decide) (t' := .int) (by decide)))
  have F549 := Fld.other W522 F535 (Or.inr (slot_ne (Or.inl (hW 167 _ rfl)) (Or.inl (hW 80 _ rfl)) (by decide) (t := .long) (by decide) (t' := .int) (by decide)))
  refine hG.st (fun t q => XS.iconst S522.here hx rfl (hb hby own_d13_62) q) ?_
  show G T522 (mkF m 63 #[rv a, .val s1, .val s2] [(.int 0), (.int 2), (.ref o)])
  have V550 := J522.arv Ao512 (ninS (Ne.symm (Exa.neArv (J516.exa E_a419) Ao512 (hW 55 _ rfl))) nin0)
  refine Own.Sit.stI hG S522 hx V550 g_o ⟨by decide, by decide⟩ (2 : Int32).toNatClampNeg rfl (by rw [lo512]; exact own_cl ⟨by decide, by decide⟩) rfl rfl (hb hby own_d13_63) (fun T551 h551 S551 J551 V551 => ?_)
  obtain ⟨ol551, Ao551, lo551⟩ : own_IA Z h551 o ko := ⟨_, V551, by rw [List.length_set]; exact lo512⟩
  refine hG.st (fun t q => XS.aloadN S551.here hx rfl (hb hby own_d13_64) rfl rfl (XS.aloadN S551.here hx rfl (hb hby own_d13_65) rfl (own_NS.ref N_s1) q)) ?_
  show G T551 (mkF m 66 #[rv a, .val s1, .val s2] [s1, (.ref a)])
  have J552 : Own.Stp Z consts_1 vm0 h0 vm421 h522 [a, o] := Own.Stp.trans J516 J522 (allS (List.mem_of_getElem? (i := 0) rfl) (allS (List.mem_of_getElem? (i := 1) rfl) (all0))) (allS (Or.inl (List.mem_of_getElem? (i := 0) rfl)) all0)
  have J553 : Own.Stp Z consts_1 vm0 h0 vm421 h551 [a, o] := Own.Stp.trans J552 J551 (allS (List.mem_of_getElem? (i := 0) rfl) (allS (List.mem_of_getElem? (i := 1) rfl) (all0))) (allS (Or.inl (List.mem_of_getElem? (i := 1) rfl)) all0)
  have N554 := own_NS.stp N_s1 J553 (allS ba (allS bo all0))
  have J556 : Own.Stp Z consts_1 vm421 h512 vm421 h551 [a, o] := Own.Stp.trans J522 J551 (allS (List.mem_of_getElem? (i := 0) rfl) (all0)) (allS (Or.inl (List.mem_of_getElem? (i := 1) rfl)) all0)
  have E557 := J556.exa E521
  have F558 := J551.fld F536 (ninS (Exa.neArv (J553.exa E_a419) Ao551 (hW 55 _ rfl)) nin0)
  have F559 := J551.fld F522 (ninS (Exa.neArv (J553.exa E_a419) Ao551 (hW 55 _ rfl)) nin0)
  have F560 := J551.fld F537 (ninS (Exa.neArv (J553.exa E_a419) Ao551 (hW 55 _ rfl)) nin0)
  have F561 := J551.fld F538 (ninS (Exa.neArv (J553.exa E_a419) Ao551 (hW 55 _ rfl)) nin0)
  have F562 := J551.fld F539 (ninS (Exa.neArv (J553.exa E_a419) Ao551 (hW 55 _ rfl)) nin0)
  have F563 := J551.fld F540 (ninS (Exa.neArv (J553.exa E_a419) Ao551 (hW 55 _ rfl)) nin0)
  have F564 := J551.fld F541 (ninS (Exa.neArv (J553.exa E_a419) Ao551 (hW 55 _ rfl)) nin0)
  have F565 := J551.fld F542 (ninS (Exa.neArv (J553.exa E_a419) Ao551 (hW 55 _ rfl)) nin0)
  have F566 := J551.fld F543 (ninS (Exa.neArv (J553.exa E_a419) Ao551 (hW 55 _ rfl)) nin0)
  have F567 := J551.fld F544 (ninS (Exa.neArv (J553.exa E_a419) Ao551 (hW 55 _ rfl)) nin0)
  have F568 := J551.fld F545 (ninS (Exa.neArv (J553.exa E_a419) Ao551 (hW 55 _ rfl)) nin0)
  have F569 := J551.fld F546 (ninS (Exa.neArv (J553.exa E_a419) Ao551 (hW 55 _ rfl)) nin0)
  have F570 := J551.fld F547 (ninS (Exa.neArv (J553.exa E_a419) Ao551 (hW 55 _ rfl)) nin0)
  have F571 := J551.fld F548 (ninS (Exa.neArv (J553.exa E_a419) Ao551 (hW 55 _ rfl)) nin0)
  have F572 := J551.fld F549 (ninS (Exa.neArv (J553.exa E_a419) Ao551 (hW 55 _ rfl)) nin0)
  have OB555 : own_Ob Z h551 a o (3 : Int32) st (0 : Int32) bt bc ch (1 : Int32) ro rs rb rch ob sb bb := ⟨E557, F558, F559, F560, F561, F562, F563, F564, F565, F566, F567, F568, F569, F570, F571, F572⟩
  have V573 := J553.arv As (ninS (Ne.symm (Exa.neArv E_a419 As (hW 55 _ rfl))) (ninS (Own.arr_neK As Ao (by simp)) nin0))
  refine Own.Sit.callP hG S551 hx hEL (as := [s1]) (hW 83 _ rfl) (hW 85 _ rfl) (hW 55 _ rfl) (hW 84 _ rfl) (hW 56 _ rfl) (hW 86 _ rfl) (by decide) E557 (own_string l Z a0 H a s1 o (3 : Int32) st (0 : Int32) bt bc ch (1 : Int32) ro rs rb rch ob sb bb n_s1 B h551 S551.old OB555 ⟨V573, hOv⟩ hsl.symm (by decide) N554 ba bs g_a g_s) own_pdab706b rfl rfl (hz _ rfl) (rest := []) rfl (W := 0) (Own.hw0 rfl rfl) (hb hby own_d13_66) (by decide) (by decide) (by decide) (by decide) (fun v574 vm574 T574 h574 S574 C574 q574 => ?_)
  obtain ⟨K574, rfl, OB574, As574, -⟩ := q574
  have J574 : Own.Stp Z consts_1 vm421 h551 vm574 h574 [a, st] := ⟨K574, C574⟩
  have OC574 : own_Ob Z h574 a o (3 : Int32) st (1 : Int32) bt bc (ch + n_s1.toInt64) (1 : Int32) ro rs rb rch ob sb bb := OB574
  obtain ⟨E_a575, F575_o, F575_oc, F575_st, F575_sc, F575_bt, F575_bc, F575_ch, F575_lst, F575_ro, F575_rs, F575_rb, F575_rch, F575_ob, F575_sb, F575_bb⟩ := id OC574
  have At574 : Arv Z h574 st ks (.object "java/lang/String") (4096 : Int32) (sl ++ [s1]) .null := As574
  refine hG.st (fun t q => XS.aloadN S574.here hx rfl (hb hby own_d13_69) rfl rfl (XS.aloadN S574.here hx rfl (hb hby own_d13_70) rfl (own_NS.ref N_s2) q)) ?_
  show G T574 (mkF m 71 #[rv a, .val s1, .val s2] [s2, (.ref a)])
  have J576 : Own.Stp Z consts_1 vm0 h0 vm574 h574 [a, o, st] := Own.Stp.trans J553 J574 (allS (List.mem_of_getElem? (i := 0) rfl) (allS (List.mem_of_getElem? (i := 1) rfl) (all0))) (allS (Or.inl (List.mem_of_getElem? (i := 0) rfl)) (allS (Or.inl (List.mem_of_getElem? (i := 2) rfl)) all0))
  have N577 := own_NS.stp N_s2 J576 (allS ba (allS bo (allS bs all0)))
  have OB578 : own_Ob Z h574 a o (3 : Int32) st (1 : Int32) bt bc (ch + n_s1.toInt64) (1 : Int32) ro rs rb rch ob sb bb := ⟨E_a575, F575_o, F575_oc, F575_st, F575_sc, F575_bt, F575_bc, F575_ch, F575_lst, F575_ro, F575_rs, F575_rb, F575_rch, F575_ob, F575_sb, F575_bb⟩
  refine Own.Sit.callP hG S574 hx hEL (as := [s2]) (hW 83 _ rfl) (hW 85 _ rfl) (hW 55 _ rfl) (hW 84 _ rfl) (hW 56 _ rfl) (hW 86 _ rfl) (by decide) E_a575 (own_string l Z a0 H a s2 o (3 : Int32) st (1 : Int32) bt bc (ch + n_s1.toInt64) (1 : Int32) ro rs rb rch ob sb bb n_s2 B h574 S574.old OB578 ⟨At574, hOv⟩ (by rw [List.length_append, hsl]; rfl) (by decide) N577 ba bs g_a g_s) own_pdab706b rfl rfl (hz _ rfl) (rest := []) rfl (W := 0) (Own.hw0 rfl rfl) (hb hby own_d13_71) (by decide) (by decide) (by decide) (by decide) (fun v579 vm579 T579 h579 S579 C579 q579 => ?_)
  obtain ⟨K579, rfl, OB579, As579, -⟩ := q579
  have J579 : Own.Stp Z consts_1 vm574 h574 vm579 h579 [a, st] := ⟨K579, C579⟩
  have OC579 : own_Ob Z h579 a o (3 : Int32) st (2 : Int32) bt bc ((ch + n_s1.toInt64) + n_s2.toInt64) (1 : Int32) ro rs rb rch ob sb bb := OB579
  obtain ⟨E_a580, F580_o, F580_oc, F580_st, F580_sc, F580_bt, F580_bc, F580_ch, F580_lst, F580_ro, F580_rs, F580_rb, F580_rch, F580_ob, F580_sb, F580_bb⟩ := id OC579
  have At579 : Arv Z h579 st ks (.object "java/lang/String") (4096 : Int32) ((sl ++ [s1]) ++ [s2]) .null := As579
  have J581 : Own.Stp Z consts_1 vm0 h0 vm579 h579 [a, o, st] := Own.Stp.trans J576 J579 (allS (List.mem_of_getElem? (i := 0) rfl) (allS (List.mem_of_getElem? (i := 1) rfl) (allS (List.mem_of_getElem? (i := 2) rfl) (all0)))) (allS (Or.inl (List.mem_of_getElem? (i := 0) rfl)) (allS (Or.inl (List.mem_of_getElem? (i := 2) rfl)) all0))
  have J582 : Own.Stp Z consts_1 vm421 h551 vm579 h579 [a, st] := Own.Stp.trans J574 J579 (allS (List.mem_of_getElem? (i := 0) rfl) (allS (List.mem_of_getElem? (i := 1) rfl) (all0))) (allS (Or.inl (List.mem_of_getElem? (i := 0) rfl)) (allS (Or.inl (List.mem_of_getElem? (i := 1) rfl)) all0))
  have V583 := J582.arv Ao551 (ninS (Ne.symm (Exa.neArv (J553.exa E_a419) Ao551 (hW 55 _ rfl))) (ninS (Ne.symm (Own.arr_neK As Ao (by simp))) nin0))
  show G T579 (mkF m 74 #[rv a, .val s1, .val s2] [])
  exact Own.Sit.ret0 hR S579 hx hret (hb hby own_d13_74) (by decide) (by decide) ⟨J581.1, rfl, ⟨E_a580, F580_o, F580_oc, F580_st, F580_sc, F580_bt, F580_bc, F580_ch, F580_lst, F580_ro, F580_rs, F580_rb, F580_rch, F580_ob, F580_sb, F580_bb⟩, ⟨_, V583, lo551⟩, ⟨At579, hOv⟩⟩
theorem own_pn46996e : plainFor (⟨"com/example/scholiast/scholiast/XmlEvents", "text", "([BII)V"⟩ : MethodName) = true := by first | exact plainFor_of_name (by first | (simp [plainName, overriddenIn]; done) | decide +kernel) | decide +kernel
theorem own_pda0ae7c : parseMethodDescriptor "([BII)V" = some ⟨[(.array .byte), .int, .int], none⟩ := by decide +kernel
theorem own_d14_0 : decode prog_53_method_9_code 0 = .ok (.aload_n 0, 1) := by decide +kernel
theorem own_d14_1 : decode prog_53_method_9_code 1 = .ok (.iconst 5, 1) := by decide +kernel
theorem own_d14_2 : decode prog_53_method_9_code 2 = .ok (.invokevirtual 23, 3) := by decide +kernel
theorem own_d14_5 : decode prog_53_method_9_code 5 = .ok (.aload_n 0, 1) := by decide +kernel
theorem own_d14_6 : decode prog_53_method_9_code 6 = .ok (.aload_n 1, 1) := by decide +kernel
theorem own_d14_7 : decode prog_53_method_9_code 7 = .ok (.iload_n 2, 1) := by decide +kernel
theorem own_d14_8 : decode prog_53_method_9_code 8 = .ok (.iload_n 3, 1) := by decide +kernel
theorem own_d14_9 : decode prog_53_method_9_code 9 = .ok (.invokevirtual 41, 3) := by decide +kernel
theorem own_d14_12 : decode prog_53_method_9_code 12 = .ok (.return_, 1) := by decide +kernel
theorem own_ef_own_text (m : MethodId) (a : Addr) (bf : Addr) (n : Int32) : entryFrame m #[(.ref a), (.ref bf), (.int 0), (.int n)] 4 = mkF m 0 #[rv a, rv bf, iv 0, iv n] [] := by first | (simp [entryFrame, mkF, argsToLocals, Value.category]; done) | rfl
set_option maxRecDepth 65536 in
set_option maxHeartbeats 40000000 in
theorem own_text (l : Launch) (Z : State) (a0 : Array Value) (H : own_Wld Z a0) {cw : List Jvm.Cond} (a : Addr) (bf : Addr) (n : Int32) (o : Addr) (st : Addr) (bt : Addr) (bc : Int32) (ch : Int64) (lst : Int32) (ro : Int32) (rs : Int32) (rb : Int32) (rch : Int64) (ob : Int64) (sb : Int64) (bb : Int64) (B : Nat) (h0 : Heap) (O0 : Ext Z.heap h0) (OB : own_Ob Z h0 a o 3 st 2 bt bc ch lst ro rs rb rch ob sb bb) {ko : ClassId} (IA : own_IA Z h0 o ko) {ks : ClassId} {sl : List Value} (SA : own_SA Z h0 st ks sl) (hsl : sl.length = 2) {kb : ClassId} (BA : own_BA Z h0 bt kb) (ba : B ≤ a) (bo : B ≤ o) (bs : B ≤ st) (bb_ : B ≤ bt) (g_a : Z.heap.size ≤ a) (g_o : Z.heap.size ≤ o) (g_s : Z.heap.size ≤ st) (g_b : Z.heap.size ≤ bt) (hbc : ¬ bc < 0 ∧ bc < 4000) (hn : ¬ n < 0 ∧ n < 8) {kf : ClassId} {fl : List Value} (Af : Arv Z h0 bf kf .byte (8 : Int32) fl (.int 0)) (fB : bf < B) :
    Own.Con l Z consts_1 (⟨"com/example/scholiast/scholiast/XmlEvents", "text", "([BII)V"⟩ : MethodName) prog_53_method_9_code 4 none cw ({ frames := 2, cells := 0, slots := 0, locals := 55 } : Room) #[(.ref a), (.ref bf), (.int 0), (.int n)] h0 (fun v h => Keep h0 h [a, o, bt] ∧ v = none ∧ own_Ob Z h a o 5 st 2 bt (bc + n) ch lst ro rs rb rch ob sb bb ∧ own_IA Z h o ko ∧ own_SA Z h st ks sl ∧ own_BA Z h bt kb) := by
  have hw := H.1
  have hW := fun (i : Nat) (w : Jvm.Cond) (e : tables_1[i]? = some w) => hw w (List.mem_of_getElem? e)
  have hCm := H.2.1
  have hSi := H.2.2.1
  have hEL := H.2.2.2
  have hWs : ∀ d ∈ StrChars.Road.words, d.before a0 Z = true := fun d hd => hw d (own_wbackV d hd)
  have hWl : ∀ d ∈ StrChars.Road.wordsLen, d.before a0 Z = true := fun d hd => hw d (own_wlenW d hd)
  have hSA : ∀ d ∈ Bundle.stringAtoms, d.before a0 Z = true := fun d hd => hw d (own_wSA d hd)
  refine Own.Con.of own_pn46996e hEL O0 ?_
  intro p e s m below meth c T0 G vm0 hx hby hml hret hnm hG hR S0
  have hz : ∀ L : Array Slot, L.size = 4 → L.size = c.maxLocals := fun L q => q.trans hml.symm
  rw [own_ef_own_text]
  show G T0 (mkF m 0 #[rv a, rv bf, iv 0, iv n] [])
  obtain ⟨E_a584, F584_o, F584_oc, F584_st, F584_sc, F584_bt, F584_bc, F584_ch, F584_lst, F584_ro, F584_rs, F584_rb, F584_rch, F584_ob, F584_sb, F584_bb⟩ := id OB
  obtain ⟨ol, Ao, lo⟩ := id IA
  obtain ⟨As, hOv⟩ := id SA
  obtain ⟨bl, Ab, lb⟩ := id BA
  refine hG.st (fun t q => XS.aloadN S0.here hx rfl (hb hby own_d14_0) rfl rfl (XS.iconst S0.here hx rfl (hb hby own_d14_1) q)) ?_
  show G T0 (mkF m 2 #[rv a, rv bf, iv 0, iv n] [(.int 5), (.ref a)])
  have OB585 : own_Ob Z h0 a o (3 : Int32) st (2 : Int32) bt bc ch lst ro rs rb rch ob sb bb := ⟨E_a584, F584_o, F584_oc, F584_st, F584_sc, F584_bt, F584_bc, F584_ch, F584_lst, F584_ro, F584_rs, F584_rb, F584_rch, F584_ob, F584_sb, F584_bb⟩
  refine Own.Sit.callP hG S0 hx hEL (as := [(.int 5)]) (hW 109 _ rfl) (hW 111 _ rfl) (hW 55 _ rfl) (hW 110 _ rfl) (hW 56 _ rfl) (hW 112 _ rfl) (by decide) E_a584 (own_op l Z a0 H a (5 : Int32) o (3 : Int32) st (2 : Int32) bt bc ch lst ro rs rb rch ob sb bb h0 S0.old OB585 ⟨_, Ao, lo⟩ (by decide) g_a g_o) own_pdc76b35 rfl rfl (hz _ rfl) (rest := []) rfl (W := 0) (Own.hw0 rfl rfl) (hb hby own_d14_2) (by decide) (by decide) (by decide) (by decide) (fun v586 vm586 T586 h586 S586 C586 q586 => ?_)
  obtain ⟨K586, rfl, OB586, ol586, Ao586, lo586⟩ := q586
  have J586 : Own.Stp Z consts_1 vm0 h0 vm586 h586 [a, o] := ⟨K586, C586⟩
  have OC586 : own_Ob Z h586 a o (4 : Int32) st (2 : Int32) bt bc ch lst ro rs rb rch ob sb bb := OB586
  obtain ⟨E_a587, F587_o, F587_oc, F587_st, F587_sc, F587_bt, F587_bc, F587_ch, F587_lst, F587_ro, F587_rs, F587_rb, F587_rch, F587_ob, F587_sb, F587_bb⟩ := id OC586
  refine hG.st (fun t q => XS.aloadN S586.here hx rfl (hb hby own_d14_5) rfl rfl (XS.aloadN S586.here hx rfl (hb hby own_d14_6) rfl rfl (XS.iloadN S586.here hx rfl (hb hby own_d14_7) rfl (XS.iloadN S586.here hx rfl (hb hby own_d14_8) rfl q)))) ?_
  show G T586 (mkF m 9 #[rv a, rv bf, iv 0, iv n] [(.int n), (.int 0), (.ref bf), (.ref a)])
  have OB588 : own_Ob Z h586 a o (4 : Int32) st (2 : Int32) bt bc ch lst ro rs rb rch ob sb bb := ⟨E_a587, F587_o, F587_oc, F587_st, F587_sc, F587_bt, F587_bc, F587_ch, F587_lst, F587_ro, F587_rs, F587_rb, F587_rch, F587_ob, F587_sb, F587_bb⟩
  have V589 := J586.arv Ab (ninS (Ne.symm (Exa.neArv E_a584 Ab (hW 55 _ rfl))) (ninS (Own.arr_neK Ab Ao (by simp)) nin0))
  have V590 := J586.arv Af (ninS (Nat.ne_of_lt (Nat.lt_of_lt_of_le fB ba)) (ninS (Nat.ne_of_lt (Nat.lt_of_lt_of_le fB bo)) nin0))
  refine Own.Sit.callP hG S586 hx hEL (as := [(.ref bf), (.int 0), (.int n)]) (hW 113 _ rfl) (hW 115 _ rfl) (hW 55 _ rfl) (hW 114 _ rfl) (hW 56 _ rfl) (hW 116 _ rfl) (by decide) E_a587 (own_content l Z a0 H a bf n o (4 : Int32) st (2 : Int32) bt bc ch lst ro rs rb rch ob sb bb B h586 S586.old OB588 ⟨_, Ao586, lo586⟩ ⟨_, V589, lb⟩ (by decide) hbc hn V590 fB ba bo bb_ g_a g_o g_b) own_pda0ae7c rfl rfl (hz _ rfl) (rest := []) rfl (W := 0) (Own.hw0 rfl rfl) (hb hby own_d14_9) (by decide) (by decide) (by decide) (by decide) (fun v591 vm591 T591 h591 S591 C591 q591 => ?_)
  obtain ⟨K591, rfl, OB591, ⟨ol591, Ao591, lo591⟩, bl591, Ab591, lb591⟩ := q591
  have J591 : Own.Stp Z consts_1 vm586 h586 vm591 h591 [a, o, bt] := ⟨K591, C591⟩
  have OC591 : own_Ob Z h591 a o (5 : Int32) st (2 : Int32) bt (bc + n) ch lst ro rs rb rch ob sb bb := OB591
  obtain ⟨E_a592, F592_o, F592_oc, F592_st, F592_sc, F592_bt, F592_bc, F592_ch, F592_lst, F592_ro, F592_rs, F592_rb, F592_rch, F592_ob, F592_sb, F592_bb⟩ := id OC591
  have J593 : Own.Stp Z consts_1 vm0 h0 vm591 h591 [a, o, bt] := Own.Stp.trans J586 J591 (allS (List.mem_of_getElem? (i := 0) rfl) (allS (List.mem_of_getElem? (i := 1) rfl) (all0))) (allS (Or.inl (List.mem_of_getElem? (i := 0) rfl)) (allS (Or.inl (List.mem_of_getElem? (i := 1) rfl)) (allS (Or.inl (List.mem_of_getElem? (i := 2) rfl)) all0)))
  have V594 := J593.arv As (ninS (Ne.symm (Exa.neArv E_a584 As (hW 55 _ rfl))) (ninS (Own.arr_neK As Ao (by simp)) (ninS (Own.arr_neK As Ab (by simp)) nin0)))
  show G T591 (mkF m 12 #[rv a, rv bf, iv 0, iv n] [])
  exact Own.Sit.ret0 hR S591 hx hret (hb hby own_d14_12) (by decide) (by decide) ⟨J593.1, rfl, ⟨E_a592, F592_o, F592_oc, F592_st, F592_sc, F592_bt, F592_bc, F592_ch, F592_lst, F592_ro, F592_rs, F592_rb, F592_rch, F592_ob, F592_sb, F592_bb⟩, ⟨_, Ao591, lo591⟩, ⟨V594, hOv⟩, ⟨_, Ab591, lb591⟩⟩
theorem own_pn2da732 : plainFor (⟨"com/example/scholiast/scholiast/XmlEvents", "end", "(Ljava/lang/String;Ljava/lang/String;)V"⟩ : MethodName) = true := by first | exact plainFor_of_name (by first | (simp [plainName, overriddenIn]; done) | decide +kernel) | decide +kernel
theorem own_d15_0 : decode prog_53_method_7_code 0 = .ok (.aload_n 0, 1) := by decide +kernel
theorem own_d15_1 : decode prog_53_method_7_code 1 = .ok (.iconst 3, 1) := by decide +kernel
theorem own_d15_2 : decode prog_53_method_7_code 2 = .ok (.invokevirtual 23, 3) := by decide +kernel
theorem own_d15_5 : decode prog_53_method_7_code 5 = .ok (.aload_n 0, 1) := by decide +kernel
theorem own_d15_6 : decode prog_53_method_7_code 6 = .ok (.aload_n 1, 1) := by decide +kernel
theorem own_d15_7 : decode prog_53_method_7_code 7 = .ok (.invokevirtual 27, 3) := by decide +kernel
theorem own_d15_10 : decode prog_53_method_7_code 10 = .ok (.aload_n 0, 1) := by decide +kernel
theorem own_d15_11 : decode prog_53_method_7_code 11 = .ok (.aload_n 2, 1) := by decide +kernel
theorem own_d15_12 : decode prog_53_method_7_code 12 = .ok (.invokevirtual 27, 3) := by decide +kernel
theorem own_d15_15 : decode prog_53_method_7_code 15 = .ok (.return_, 1) := by decide +kernel
theorem own_ef_own_end (m : MethodId) (a : Addr) (s1 : Value) (s2 : Value) (h_s1 : s1.isRef = true) (h_s2 : s2.isRef = true) : entryFrame m #[(.ref a), s1, s2] 3 = mkF m 0 #[rv a, .val s1, .val s2] [] := by
  all_goals rcases ref_cases h_s1 with rfl | ⟨_, rfl⟩
  all_goals rcases ref_cases h_s2 with rfl | ⟨_, rfl⟩
  all_goals first | (simp [entryFrame, mkF, argsToLocals, Value.category]; done) | rfl
set_option maxRecDepth 65536 in
set_option maxHeartbeats 40000000 in
theorem own_end (l : Launch) (Z : State) (a0 : Array Value) (H : own_Wld Z a0) {cw : List Jvm.Cond} (a : Addr) (s1 : Value) (s2 : Value) (o : Addr) (st : Addr) (bt : Addr) (bc : Int32) (ch : Int64) (lst : Int32) (ro : Int32) (rs : Int32) (rb : Int32) (rch : Int64) (ob : Int64) (sb : Int64) (bb : Int64) (n_s1 : Int32) (n_s2 : Int32) (B : Nat) (h0 : Heap) (O0 : Ext Z.heap h0) (OB : own_Ob Z h0 a o 5 st 2 bt bc ch lst ro rs rb rch ob sb bb) {ko : ClassId} (IA : own_IA Z h0 o ko) {ks : ClassId} {sl : List Value} (SA : own_SA Z h0 st ks sl) (hsl : sl.length = 2) (N_s1 : own_NS Z h0 B s1 n_s1) (N_s2 : own_NS Z h0 B s2 n_s2) (ba : B ≤ a) (bo : B ≤ o) (bs : B ≤ st) (bb_ : B ≤ bt) (g_a : Z.heap.size ≤ a) (g_o : Z.heap.size ≤ o) (g_s : Z.heap.size ≤ st) (g_b : Z.heap.size ≤ bt) :
    Own.Con l Z consts_1 (⟨"com/example/scholiast/scholiast/XmlEvents", "end", "(Ljava/lang/String;Ljava/lang/String;)V"⟩ : MethodName) prog_53_method_7_code 3 none cw ({ frames := 4, cells := 0, slots := 0, locals := 53 } : Room) #[(.ref a), s1, s2] h0 (fun v h => Keep h0 h [a, o, st] ∧ v = none ∧ own_Ob Z h a o 6 st 4 bt bc ((ch + n_s1.toInt64) + n_s2.toInt64) lst ro rs rb rch ob sb bb ∧ own_IA Z h o ko ∧ own_SA Z h st ks ((sl ++ [s1]) ++ [s2])) := by
  have hw := H.1
  have hW := fun (i : Nat) (w : Jvm.Cond) (e : tables_1[i]? = some w) => hw w (List.mem_of_getElem? e)
  have hCm := H.2.1
  have hSi := H.2.2.1
  have hEL := H.2.2.2
  have hWs : ∀ d ∈ StrChars.Road.words, d.before a0 Z = true := fun d hd => hw d (own_wbackV d hd)
  have hWl : ∀ d ∈ StrChars.Road.wordsLen, d.before a0 Z = true := fun d hd => hw d (own_wlenW d hd)
  have hSA : ∀ d ∈ Bundle.stringAtoms, d.before a0 Z = true := fun d hd => hw d (own_wSA d hd)
  refine Own.Con.of own_pn2da732 hEL O0 ?_
  intro p e s m below meth c T0 G vm0 hx hby hml hret hnm hG hR S0
  have hz : ∀ L : Array Slot, L.size = 3 → L.size = c.maxLocals := fun L q => q.trans hml.symm
  rw [own_ef_own_end _ _ _ _ (own_NS.ref N_s1) (own_NS.ref N_s2)]
  show G T0 (mkF m 0 #[rv a, .val s1, .val s2] [])
  obtain ⟨E_a595, F595_o, F595_oc, F595_st, F595_sc, F595_bt, F595_bc, F595_ch, F595_lst, F595_ro, F595_rs, F595_rb, F595_rch, F595_ob, F595_sb, F595_bb⟩ := id OB
  obtain ⟨ol, Ao, lo⟩ := id IA
  obtain ⟨As, hOv⟩ := id SA
  refine hG.st (fun t q => XS.aloadN S0.here hx rfl (hb hby own_d15_0) rfl rfl (XS.iconst S0.here hx rfl (hb hby own_d15_1) q)) ?_
  show G T0 (mkF m 2 #[rv a, .val s1, .val s2] [(.int 3), (.ref a)])
  have OB596 : own_Ob Z h0 a o (5 : Int32) st (2 : Int32) bt bc ch lst ro rs rb rch ob sb bb := ⟨E_a595, F595_o, F595_oc, F595_st, F595_sc, F595_bt, F595_bc, F595_ch, F595_lst, F595_ro, F595_rs, F595_rb, F595_rch, F595_ob, F595_sb, F595_bb⟩
  refine Own.Sit.callP hG S0 hx hEL (as := [(.int 3)]) (hW 109 _ rfl) (hW 111 _ rfl) (hW 55 _ rfl) (hW 110 _ rfl) (hW 56 _ rfl) (hW 112 _ rfl) (by decide) E_a595 (own_op l Z a0 H a (3 : Int32) o (5 : Int32) st (2 : Int32) bt bc ch lst ro rs rb rch ob sb bb h0 S0.old OB596 ⟨_, Ao, lo⟩ (by decide) g_a g_o) own_pdc76b35 rfl rfl (hz _ rfl) (rest := []) rfl (W := 0) (Own.hw0 rfl rfl) (hb hby own_d15_2) (by decide) (by decide) (by decide) (by decide) (fun v597 vm597 T597 h597 S597 C597 q597 => ?_)
  obtain ⟨K597, rfl, OB597, ol597, Ao597, lo597⟩ := q597
  have J597 : Own.Stp Z consts_1 vm0 h0 vm597 h597 [a, o] := ⟨K597, C597⟩
  have OC597 : own_Ob Z h597 a o (6 : Int32) st (2 : Int32) bt bc ch lst ro rs rb rch ob sb bb := OB597
  obtain ⟨E_a598, F598_o, F598_oc, F598_st, F598_sc, F598_bt, F598_bc, F598_ch, F598_lst, F598_ro, F598_rs, F598_rb, F598_rch, F598_ob, F598_sb, F598_bb⟩ := id OC597
  refine hG.st (fun t q => XS.aloadN S597.here hx rfl (hb hby own_d15_5) rfl rfl (XS.aloadN S597.here hx rfl (hb hby own_d15_6) rfl (own_NS.ref N_s1) q)) ?_
  show G T597 (mkF m 7 #[rv a, .val s1, .val s2] [s1, (.ref a)])
  have N599 := own_NS.stp N_s1 J597 (allS ba (allS bo all0))
  have OB600 : own_Ob Z h597 a o (6 : Int32) st (2 : Int32) bt bc ch lst ro rs rb rch ob sb bb := ⟨E_a598, F598_o, F598_oc, F598_st, F598_sc, F598_bt, F598_bc, F598_ch, F598_lst, F598_ro, F598_rs, F598_rb, F598_rch, F598_ob, F598_sb, F598_bb⟩
  have V601 := J597.arv As (ninS (Ne.symm (Exa.neArv E_a595 As (hW 55 _ rfl))) (ninS (Own.arr_neK As Ao (by simp)) nin0))
  refine Own.Sit.callP hG S597 hx hEL (as := [s1]) (hW 83 _ rfl) (hW 85 _ rfl) (hW 55 _ rfl) (hW 84 _ rfl) (hW 56 _ rfl) (hW 86 _ rfl) (by decide) E_a598 (own_string l Z a0 H a s1 o (6 : Int32) st (2 : Int32) bt bc ch lst ro rs rb rch ob sb bb n_s1 B h597 S597.old OB600 ⟨V601, hOv⟩ hsl.symm (by decide) N599 ba bs g_a g_s) own_pdab706b rfl rfl (hz _ rfl) (rest := []) rfl (W := 0) (Own.hw0 rfl rfl) (hb hby own_d15_7) (by decide) (by decide) (by decide) (by decide) (fun v602 vm602 T602 h602 S602 C602 q602 => ?_)
  obtain ⟨K602, rfl, OB602, As602, -⟩ := q602
  have J602 : Own.Stp Z consts_1 vm597 h597 vm602 h602 [a, st] := ⟨K602, C602⟩
  have OC602 : own_Ob Z h602 a o (6 : Int32) st (3 : Int32) bt bc (ch + n_s1.toInt64) lst ro rs rb rch ob sb bb := OB602
  obtain ⟨E_a603, F603_o, F603_oc, F603_st, F603_sc, F603_bt, F603_bc, F603_ch, F603_lst, F603_ro, F603_rs, F603_rb, F603_rch, F603_ob, F603_sb, F603_bb⟩ := id OC602
  have At602 : Arv Z h602 st ks (.object "java/lang/String") (4096 : Int32) (sl ++ [s1]) .null := As602
  refine hG.st (fun t q => XS.aloadN S602.here hx rfl (hb hby own_d15_10) rfl rfl (XS.aloadN S602.here hx rfl (hb hby own_d15_11) rfl (own_NS.ref N_s2) q)) ?_
  show G T602 (mkF m 12 #[rv a, .val s1, .val s2] [s2, (.ref a)])
  have J604 : Own.Stp Z consts_1 vm0 h0 vm602 h602 [a, o, st] := Own.Stp.trans J597 J602 (allS (List.mem_of_getElem? (i := 0) rfl) (allS (List.mem_of_getElem? (i := 1) rfl) (all0))) (allS (Or.inl (List.mem_of_getElem? (i := 0) rfl)) (allS (Or.inl (List.mem_of_getElem? (i := 2) rfl)) all0))
  have N605 := own_NS.stp N_s2 J604 (allS ba (allS bo (allS bs all0)))
  have OB606 : own_Ob Z h602 a o (6 : Int32) st (3 : Int32) bt bc (ch + n_s1.toInt64) lst ro rs rb rch ob sb bb := ⟨E_a603, F603_o, F603_oc, F603_st, F603_sc, F603_bt, F603_bc, F603_ch, F603_lst, F603_ro, F603_rs, F603_rb, F603_rch, F603_ob, F603_sb, F603_bb⟩
  refine Own.Sit.callP hG S602 hx hEL (as := [s2]) (hW 83 _ rfl) (hW 85 _ rfl) (hW 55 _ rfl) (hW 84 _ rfl) (hW 56 _ rfl) (hW 86 _ rfl) (by decide) E_a603 (own_string l Z a0 H a s2 o (6 : Int32) st (3 : Int32) bt bc (ch + n_s1.toInt64) lst ro rs rb rch ob sb bb n_s2 B h602 S602.old OB606 ⟨At602, hOv⟩ (by rw [List.length_append, hsl]; rfl) (by decide) N605 ba bs g_a g_s) own_pdab706b rfl rfl (hz _ rfl) (rest := []) rfl (W := 0) (Own.hw0 rfl rfl) (hb hby own_d15_12) (by decide) (by decide) (by decide) (by decide) (fun v607 vm607 T607 h607 S607 C607 q607 => ?_)
  obtain ⟨K607, rfl, OB607, As607, -⟩ := q607
  have J607 : Own.Stp Z consts_1 vm602 h602 vm607 h607 [a, st] := ⟨K607, C607⟩
  have OC607 : own_Ob Z h607 a o (6 : Int32) st (4 : Int32) bt bc ((ch + n_s1.toInt64) + n_s2.toInt64) lst ro rs rb rch ob sb bb := OB607
  obtain ⟨E_a608, F608_o, F608_oc, F608_st, F608_sc, F608_bt, F608_bc, F608_ch, F608_lst, F608_ro, F608_rs, F608_rb, F608_rch, F608_ob, F608_sb, F608_bb⟩ := id OC607
  have At607 : Arv Z h607 st ks (.object "java/lang/String") (4096 : Int32) ((sl ++ [s1]) ++ [s2]) .null := As607
  have J609 : Own.Stp Z consts_1 vm0 h0 vm607 h607 [a, o, st] := Own.Stp.trans J604 J607 (allS (List.mem_of_getElem? (i := 0) rfl) (allS (List.mem_of_getElem? (i := 1) rfl) (allS (List.mem_of_getElem? (i := 2) rfl) (all0)))) (allS (Or.inl (List.mem_of_getElem? (i := 0) rfl)) (allS (Or.inl (List.mem_of_getElem? (i := 2) rfl)) all0))
  have J610 : Own.Stp Z consts_1 vm597 h597 vm607 h607 [a, st] := Own.Stp.trans J602 J607 (allS (List.mem_of_getElem? (i := 0) rfl) (allS (List.mem_of_getElem? (i := 1) rfl) (all0))) (allS (Or.inl (List.mem_of_getElem? (i := 0) rfl)) (allS (Or.inl (List.mem_of_getElem? (i := 1) rfl)) all0))
  have V611 := J610.arv Ao597 (ninS (Ne.symm (Exa.neArv (J597.exa E_a595) Ao597 (hW 55 _ rfl))) (ninS (Ne.symm (Own.arr_neK As Ao (by simp))) nin0))
  show G T607 (mkF m 15 #[rv a, .val s1, .val s2] [])
  exact Own.Sit.ret0 hR S607 hx hret (hb hby own_d15_15) (by decide) (by decide) ⟨J609.1, rfl, ⟨E_a608, F608_o, F608_oc, F608_st, F608_sc, F608_bt, F608_bc, F608_ch, F608_lst, F608_ro, F608_rs, F608_rb, F608_rch, F608_ob, F608_sb, F608_bb⟩, ⟨_, V611, lo597⟩, ⟨At607, hOv⟩⟩
theorem own_pnc10fb3 : plainFor (⟨"com/example/scholiast/scholiast/XmlEvents", "markReleased", "(III)V"⟩ : MethodName) = true := by first | exact plainFor_of_name (by first | (simp [plainName, overriddenIn]; done) | decide +kernel) | decide +kernel
theorem own_d16_0 : decode prog_53_method_26_code 0 = .ok (.aload_n 0, 1) := by decide +kernel
theorem own_d16_1 : decode prog_53_method_26_code 1 = .ok (.getfield 80, 3) := by decide +kernel
theorem own_d16_4 : decode prog_53_method_26_code 4 = .ok (.istore 4, 2) := by decide +kernel
theorem own_d16_6 : decode prog_53_method_26_code 6 = .ok (.iload 4, 2) := by decide +kernel
theorem own_d16_8 : decode prog_53_method_26_code 8 = .ok (.iload_n 2, 1) := by decide +kernel
theorem own_d16_9 : decode prog_53_method_26_code 9 = .ok (.if_icmp .ge 29, 3) := by decide +kernel
theorem own_d16_12 : decode prog_53_method_26_code 12 = .ok (.aload_n 0, 1) := by decide +kernel
theorem own_d16_13 : decode prog_53_method_26_code 13 = .ok (.dup, 1) := by decide +kernel
theorem own_d16_14 : decode prog_53_method_26_code 14 = .ok (.getfield 51, 3) := by decide +kernel
theorem own_d16_17 : decode prog_53_method_26_code 17 = .ok (.aload_n 0, 1) := by decide +kernel
theorem own_d16_18 : decode prog_53_method_26_code 18 = .ok (.getfield 15, 3) := by decide +kernel
theorem own_d16_21 : decode prog_53_method_26_code 21 = .ok (.iload 4, 2) := by decide +kernel
theorem own_d16_23 : decode prog_53_method_26_code 23 = .ok (.aaload, 1) := by decide +kernel
theorem own_d16_24 : decode prog_53_method_26_code 24 = .ok (.invokestatic 95, 3) := by decide +kernel
theorem own_d16_27 : decode prog_53_method_26_code 27 = .ok (.i2l, 1) := by decide +kernel
theorem own_d16_28 : decode prog_53_method_26_code 28 = .ok (.ladd, 1) := by decide +kernel
theorem own_d16_29 : decode prog_53_method_26_code 29 = .ok (.putfield 51, 3) := by decide +kernel
theorem own_d16_32 : decode prog_53_method_26_code 32 = .ok (.iinc 4 1, 3) := by decide +kernel
theorem own_d16_35 : decode prog_53_method_26_code 35 = .ok (.goto (-29), 3) := by decide +kernel
theorem own_d16_38 : decode prog_53_method_26_code 38 = .ok (.aload_n 0, 1) := by decide +kernel
theorem own_d16_39 : decode prog_53_method_26_code 39 = .ok (.iload_n 1, 1) := by decide +kernel
theorem own_d16_40 : decode prog_53_method_26_code 40 = .ok (.putfield 45, 3) := by decide +kernel
theorem own_d16_43 : decode prog_53_method_26_code 43 = .ok (.aload_n 0, 1) := by decide +kernel
theorem own_d16_44 : decode prog_53_method_26_code 44 = .ok (.iload_n 2, 1) := by decide +kernel
theorem own_d16_45 : decode prog_53_method_26_code 45 = .ok (.putfield 80, 3) := by decide +kernel
theorem own_d16_48 : decode prog_53_method_26_code 48 = .ok (.aload_n 0, 1) := by decide +kernel
theorem own_d16_49 : decode prog_53_method_26_code 49 = .ok (.iload_n 3, 1) := by decide +kernel
theorem own_d16_50 : decode prog_53_method_26_code 50 = .ok (.putfield 48, 3) := by decide +kernel
theorem own_d16_53 : decode prog_53_method_26_code 53 = .ok (.return_, 1) := by decide +kernel
theorem own_ef_own_mark02 (m : MethodId) (a : Addr) (rov : Int32) (rbv : Int32) : entryFrame m #[(.ref a), (.int rov), (.int 2), (.int rbv)] 5 = mkF m 0 #[rv a, iv rov, iv 2, iv rbv, .unset] [] := by first | (simp [entryFrame, mkF, argsToLocals, Value.category]; done) | rfl
set_option maxRecDepth 65536 in
set_option maxHeartbeats 40000000 in
theorem own_mark02 (l : Launch) (Z : State) (a0 : Array Value) (H : own_Wld Z a0) {cw : List Jvm.Cond} (a : Addr) (rov : Int32) (rbv : Int32) (o : Addr) (oc : Int32) (st : Addr) (sc : Int32) (bt : Addr) (bc : Int32) (ch : Int64) (lst : Int32) (ro : Int32) (rb : Int32) (rch : Int64) (ob : Int64) (sb : Int64) (bb : Int64) (u0 : Value) (u1 : Value) (u2 : Value) (u3 : Value) (n_u0 : Int32) (n_u1 : Int32) (n_u2 : Int32) (n_u3 : Int32) (B : Nat) (h0 : Heap) (O0 : Ext Z.heap h0) (OB : own_Ob Z h0 a o oc st sc bt bc ch lst ro 0 rb rch ob sb bb) {ks : ClassId} (SA : own_SA Z h0 st ks [u0, u1, u2, u3]) (N_u0 : own_NS Z h0 B u0 n_u0) (N_u1 : own_NS Z h0 B u1 n_u1) (N_u2 : own_NS Z h0 B u2 n_u2) (N_u3 : own_NS Z h0 B u3 n_u3) (ba : B ≤ a) (bs : B ≤ st) (g_a : Z.heap.size ≤ a) (g_s : Z.heap.size ≤ st) :
    Own.Con l Z consts_1 (⟨"com/example/scholiast/scholiast/XmlEvents", "markReleased", "(III)V"⟩ : MethodName) prog_53_method_26_code 5 none cw ({ frames := 3, cells := 0, slots := 0, locals := 40 } : Room) #[(.ref a), (.int rov), (.int 2), (.int rbv)] h0 (fun v h => Keep h0 h [a] ∧ v = none ∧ own_Ob Z h a o oc st sc bt bc ch lst rov 2 rbv ((rch + n_u0.toInt64) + n_u1.toInt64) ob sb bb) := by
  have hw := H.1
  have hW := fun (i : Nat) (w : Jvm.Cond) (e : tables_1[i]? = some w) => hw w (List.mem_of_getElem? e)
  have hCm := H.2.1
  have hSi := H.2.2.1
  have hEL := H.2.2.2
  have hWs : ∀ d ∈ StrChars.Road.words, d.before a0 Z = true := fun d hd => hw d (own_wbackV d hd)
  have hWl : ∀ d ∈ StrChars.Road.wordsLen, d.before a0 Z = true := fun d hd => hw d (own_wlenW d hd)
  have hSA : ∀ d ∈ Bundle.stringAtoms, d.before a0 Z = true := fun d hd => hw d (own_wSA d hd)
  refine Own.Con.of own_pnc10fb3 hEL O0 ?_
  intro p e s m below meth c T0 G vm0 hx hby hml hret hnm hG hR S0
  have hz : ∀ L : Array Slot, L.size = 5 → L.size = c.maxLocals := fun L q => q.trans hml.symm
  rw [own_ef_own_mark02]
  show G T0 (mkF m 0 #[rv a, iv rov, iv 2, iv rbv, .unset] [])
  obtain ⟨E_a612, F612_o, F612_oc, F612_st, F612_sc, F612_bt, F612_bc, F612_ch, F612_lst, F612_ro, F612_rs, F612_rb, F612_rch, F612_ob, F612_sb, F612_bb⟩ := id OB
  obtain ⟨As, hOv⟩ := id SA
  refine hG.st (fun t q => XS.aloadN S0.here hx rfl (hb hby own_d16_0) rfl rfl q) ?_
  show G T0 (mkF m 1 #[rv a, iv rov, iv 2, iv rbv, .unset] [(.ref a)])
  refine Own.Sit.getF hG S0 hx (host := "") (Or.inl (hW 141 _ rfl)) Via.refl F612_rs rfl rfl (hb hby own_d16_1) (fun T613 S613 => ?_)
  refine hG.st (fun t q => XS.istore S613.here hx rfl (hb hby own_d16_4) rfl (l' := #[rv a, iv rov, iv 2, iv rbv, iv 0]) rfl (XS.iload S613.here hx rfl (hb hby own_d16_6) rfl (XS.iloadN S613.here hx rfl (hb hby own_d16_8) rfl (XS.icmpNo S613.here hx rfl (hb hby own_d16_9) rfl (tlt (by decide : (0 : Int32) < (2 : Int32))).2.1 (XS.aloadN S613.here hx rfl (hb hby own_d16_12) rfl rfl (XS.dup S613.here hx rfl (hb hby own_d16_13) rfl rfl q)))))) ?_
  show G T613 (mkF m 14 #[rv a, iv rov, iv 2, iv rbv, iv 0] [(.ref a), (.ref a)])
  refine Own.Sit.getF hG S613 hx (host := "") (Or.inl (hW 143 _ rfl)) Via.refl F612_rch rfl rfl (hb hby own_d16_14) (fun T614 S614 => ?_)
  refine hG.st (fun t q => XS.aloadN S614.here hx rfl (hb hby own_d16_17) rfl rfl q) ?_
  show G T614 (mkF m 18 #[rv a, iv rov, iv 2, iv rbv, iv 0] [(.ref a), (.long rch), (.ref a)])
  refine Own.Sit.getF hG S614 hx (host := "") (Or.inl (hW 66 _ rfl)) Via.refl F612_st rfl rfl (hb hby own_d16_18) (fun T615 S615 => ?_)
  refine hG.st (fun t q => XS.iload S615.here hx rfl (hb hby own_d16_21) rfl q) ?_
  show G T615 (mkF m 23 #[rv a, iv rov, iv 2, iv rbv, iv 0] [(.int 0), (.ref st), (.long rch), (.ref a)])
  refine Own.Sit.aaload hG S615 hx As rfl ⟨by decide, by decide⟩ rfl rfl rfl (hb hby own_d16_23) ?_
  show G T615 (mkF m 24 #[rv a, iv rov, iv 2, iv rbv, iv 0] [u0, (.long rch), (.ref a)])
  refine Own.Sit.callS hG S615 hx hEL (as := [u0]) (hW 91 _ rfl) (hW 92 _ rfl) (hW 56 _ rfl) (hW 93 _ rfl) (by decide) (own_len l Z a0 H u0 n_u0 B h0 S615.old N_u0) own_pdb70cb2 rfl rfl (hz _ rfl) (rest := [(.long rch), (.ref a)]) rfl (W := 3) (Own.hw0 rfl rfl) (hb hby own_d16_24) (by decide) (by decide) (by decide) (by decide) (fun v616 vm616 T616 h616 S616 C616 q616 => ?_)
  obtain ⟨K616, rfl⟩ := q616
  have J616 : Own.Stp Z consts_1 vm0 h0 vm616 h616 [] := ⟨K616, C616⟩
  refine hG.st (fun t q => XS.i2l S616.here hx rfl (hb hby own_d16_27) rfl (XS.ladd S616.here hx rfl (hb hby own_d16_28) rfl q)) ?_
  show G T616 (mkF m 29 #[rv a, iv rov, iv 2, iv rbv, iv 0] [(.long (rch + (n_u0.toInt64))), (.ref a)])
  have F617 := J616.fld F612_rch nin0
  have E618 := J616.exa E_a612
  have F620 := J616.fld F612_o nin0
  have F621 := J616.fld F612_oc nin0
  have F622 := J616.fld F612_st nin0
  have F623 := J616.fld F612_sc nin0
  have F624 := J616.fld F612_bt nin0
  have F625 := J616.fld F612_bc nin0
  have F626 := J616.fld F612_ch nin0
  have F627 := J616.fld F612_lst nin0
  have F628 := J616.fld F612_ro nin0
  have F629 := J616.fld F612_rs nin0
  have F630 := J616.fld F612_rb nin0
  have F631 := J616.fld F612_ob nin0
  have F632 := J616.fld F612_sb nin0
  have F633 := J616.fld F612_bb nin0
  refine Own.Sit.putF hG S616 hx (host := "") (Or.inl (hW 143 _ rfl)) Via.refl F617 E618 (Or.inl (hW 144 _ rfl)) (hW 55 _ rfl) (ty := .long) (by decide) rfl rfl g_a (Safe.exa S616.warm.alike E618 (by decide) (by decide)) rfl rfl (hb hby own_d16_29) (fun T619 h619 S619 J619 W619 F619 => ?_)
  have F634 := Fld.other W619 F620 (Or.inr (slot_ne (Or.inl (hW 63 _ rfl)) (Or.inl (hW 144 _ rfl)) (by decide) (t := (.array .int)) (by decide) (t' := .long) (by decide)))
  have F635 := Fld.other W619 F621 (Or.inr (slot_ne (Or.inl (hW 80 _ rfl)) (Or.inl (hW 144 _ rfl)) (by decide) (t := .int) (by decide) (t' := .long) (by decide)))
  have F636 := Fld.other W619 F622 (Or.inr (slot_ne (Or.inl (hW 67 _ rfl)) (Or.inl (hW 144 _ rfl)) (by decide) (t := (.array (.object "java/lang/String"))) (by decide) (t' := .long) (by decide)))
  have F637 := Fld.other W619 F623 (Or.inr (slot_ne (Or.inl (hW 88 _ rfl)) (Or.inl (hW 144 _ rfl)) (by decide) (t := .int) (by decide) (t' := .long) (by decide)))
  have F638 := Fld.other W619 F624 (Or.inr (slot_ne (Or.inl (hW 69 _ rfl)) (Or.inl (hW 144 _ rfl)) (by decide) (t := (.array .byte)) (by decide) (t' := .long) (by decide)))
  have F639 := Fld.other W619 F625 (Or.inr (slot_ne (Or.inl (hW 122 _ rfl)) (Or.inl (hW 144 _ rfl)) (by decide) (t := .int) (by decide) (t' := .long) (by decide)))
  have F640 := Fld.other W619 F626 (Or.inr (slot_ne (Or.inl (hW 90 _ rfl)) (Or.inl (hW 144 _ rfl)) (by decide) (t := .long) (by decide) (t' := .long) (by decide)))
  have F641 := Fld.other W619 F627 (Or.inr (slot_ne (Or.inl (hW 82 _ rfl)) (Or.inl (hW 144 _ rfl)) (by decide) (t := .int) (by decide) (t' := .long) (by decide)))
  have F642 := Fld.other W619 F628 (Or.inr (slot_ne (Or.inl (hW 146 _ rfl)) (Or.inl (hW 144 _ rfl)) (by decide) (t := .int) (by decide) (t' := .long) (by decide)))
  have F643 := Fld.other W619 F629 (Or.inr (slot_ne (Or.inl (hW 142 _ rfl)) (Or.inl (hW 144 _ rfl)) (by decide) (t := .int) (by decide) (t' := .long) (by decide)))
  have F644 := Fld.other W619 F630 (Or.inr (slot_ne (Or.inl (hW 148 _ rfl)) (Or.inl (hW 144 _ rfl)) (by decide) (t := .int) (by decide) (t' := .long) (by decide)))
  have F645 := Fld.other W619 F631 (Or.inr (slot_ne (Or.inl (hW 163 _ rfl)) (Or.inl (hW 144 _ rfl)) (by decide) (t := .long) (by decide) (t' := .long) (by decide)))
  have F646 := Fld.other W619 F632 (Or.inr (slot_ne (Or.inl (hW 165 _ rfl)) (Or.inl (hW 144 _ rfl)) (by decide) (t := .long) (by decide) (t' := .long) (by decide)))
  have F647 := Fld.other W619 F633 (Or.inr (slot_ne (Or.inl (hW 167 _ rfl)) (Or.inl (hW 144 _ rfl)) (by decide) (t := .long) (by decide) (t' := .long) (by decide)))
  refine hG.st (fun t q => XS.iinc S619.here hx rfl (hb hby own_d16_32) rfl (l' := #[rv a, iv rov, iv 2, iv rbv, iv 1]) rfl (XS.goto S619.here hx rfl (pc0 := 35) (pc' := 6) rfl (hb hby own_d16_35) (by decide) (by decide) (XS.iload S619.here hx rfl (hb hby own_d16_6) rfl (XS.iloadN S619.here hx rfl (hb hby own_d16_8) rfl (XS.icmpNo S619.here hx rfl (hb hby own_d16_9) rfl (tlt (by decide : (1 : Int32) < (2 : Int32))).2.1 (XS.aloadN S619.here hx rfl (hb hby own_d16_12) rfl rfl q)))))) ?_
  show G T619 (mkF m 13 #[rv a, iv rov, iv 2, iv rbv, iv 1] [(.ref a)])
  refine hG.st (fun t q => XS.dup S619.here hx rfl (hb hby own_d16_13) rfl rfl q) ?_
  show G T619 (mkF m 14 #[rv a, iv rov, iv 2, iv rbv, iv 1] [(.ref a), (.ref a)])
  refine Own.Sit.getF hG S619 hx (host := "") (Or.inl (hW 143 _ rfl)) Via.refl F619 rfl rfl (hb hby own_d16_14) (fun T648 S648 => ?_)
  refine hG.st (fun t q => XS.aloadN S648.here hx rfl (hb hby own_d16_17) rfl rfl q) ?_
  show G T648 (mkF m 18 #[rv a, iv rov, iv 2, iv rbv, iv 1] [(.ref a), (.long (rch + (n_u0.toInt64))), (.ref a)])
  refine Own.Sit.getF hG S648 hx (host := "") (Or.inl (hW 66 _ rfl)) Via.refl F636 rfl rfl (hb hby own_d16_18) (fun T649 S649 => ?_)
  refine hG.st (fun t q => XS.iload S649.here hx rfl (hb hby own_d16_21) rfl q) ?_
  show G T649 (mkF m 23 #[rv a, iv rov, iv 2, iv rbv, iv 1] [(.int 1), (.ref st), (.long (rch + (n_u0.toInt64))), (.ref a)])
  have J650 : Own.Stp Z consts_1 vm0 h0 vm616 h619 [a] := Own.Stp.trans J616 J619 (all0) (allS (Or.inl (List.mem_of_getElem? (i := 0) rfl)) all0)
  have V651 := J650.arv As (ninS (Ne.symm (Exa.neArv E_a612 As (hW 55 _ rfl))) nin0)
  refine Own.Sit.aaload hG S649 hx V651 rfl ⟨by decide, by decide⟩ rfl rfl rfl (hb hby own_d16_23) ?_
  show G T649 (mkF m 24 #[rv a, iv rov, iv 2, iv rbv, iv 1] [u1, (.long (rch + (n_u0.toInt64))), (.ref a)])
  have N652 := own_NS.stp N_u1 J650 (allS ba all0)
  refine Own.Sit.callS hG S649 hx hEL (as := [u1]) (hW 91 _ rfl) (hW 92 _ rfl) (hW 56 _ rfl) (hW 93 _ rfl) (by decide) (own_len l Z a0 H u1 n_u1 B h619 S649.old N652) own_pdb70cb2 rfl rfl (hz _ rfl) (rest := [(.long (rch + (n_u0.toInt64))), (.ref a)]) rfl (W := 3) (Own.hw0 rfl rfl) (hb hby own_d16_24) (by decide) (by decide) (by decide) (by decide) (fun v653 vm653 T653 h653 S653 C653 q653 => ?_)
  obtain ⟨K653, rfl⟩ := q653
  have J653 : Own.Stp Z consts_1 vm616 h619 vm653 h653 [] := ⟨K653, C653⟩
  refine hG.st (fun t q => XS.i2l S653.here hx rfl (hb hby own_d16_27) rfl (XS.ladd S653.here hx rfl (hb hby own_d16_28) rfl q)) ?_
  show G T653 (mkF m 29 #[rv a, iv rov, iv 2, iv rbv, iv 1] [(.long ((rch + (n_u0.toInt64)) + (n_u1.toInt64))), (.ref a)])
  have F654 := J653.fld F619 nin0
  have J655 : Own.Stp Z consts_1 vm616 h616 vm653 h653 [a] := Own.Stp.trans J619 J653 (allS (List.mem_of_getElem? (i := 0) rfl) (all0)) all0
  have E656 := J655.exa E618
  have F658 := J653.fld F634 nin0
  have F659 := J653.fld F635 nin0
  have F660 := J653.fld F636 nin0
  have F661 := J653.fld F637 nin0
  have F662 := J653.fld F638 nin0
  have F663 := J653.fld F639 nin0
  have F664 := J653.fld F640 nin0
  have F665 := J653.fld F641 nin0
  have F666 := J653.fld F642 nin0
  have F667 := J653.fld F643 nin0
  have F668 := J653.fld F644 nin0
  have F669 := J653.fld F645 nin0
  have F670 := J653.fld F646 nin0
  have F671 := J653.fld F647 nin0
  refine Own.Sit.putF hG S653 hx (host := "") (Or.inl (hW 143 _ rfl)) Via.refl F654 E656 (Or.inl (hW 144 _ rfl)) (hW 55 _ rfl) (ty := .long) (by decide) rfl rfl g_a (Safe.exa S653.warm.alike E656 (by decide) (by decide)) rfl rfl (hb hby own_d16_29) (fun T657 h657 S657 J657 W657 F657 => ?_)
  have F672 := Fld.other W657 F658 (Or.inr (slot_ne (Or.inl (hW 63 _ rfl)) (Or.inl (hW 144 _ rfl)) (by decide) (t := (.array .int)) (by decide) (t' := .long) (by decide)))
  have F673 := Fld.other W657 F659 (Or.inr (slot_ne (Or.inl (hW 80 _ rfl)) (Or.inl (hW 144 _ rfl)) (by decide) (t := .int) (by decide) (t' := .long) (by decide)))
  have F674 := Fld.other W657 F660 (Or.inr (slot_ne (Or.inl (hW 67 _ rfl)) (Or.inl (hW 144 _ rfl)) (by decide) (t := (.array (.object "java/lang/String"))) (by decide) (t' := .long) (by decide)))
  have F675 := Fld.other W657 F661 (Or.inr (slot_ne (Or.inl (hW 88 _ rfl)) (Or.inl (hW 144 _ rfl)) (by decide) (t := .int) (by decide) (t' := .long) (by decide)))
  have F676 := Fld.other W657 F662 (Or.inr (slot_ne (Or.inl (hW 69 _ rfl)) (Or.inl (hW 144 _ rfl)) (by decide) (t := (.array .byte)) (by decide) (t' := .long) (by decide)))
  have F677 := Fld.other W657 F663 (Or.inr (slot_ne (Or.inl (hW 122 _ rfl)) (Or.inl (hW 144 _ rfl)) (by decide) (t := .int) (by decide) (t' := .long) (by decide)))
  have F678 := Fld.other W657 F664 (Or.inr (slot_ne (Or.inl (hW 90 _ rfl)) (Or.inl (hW 144 _ rfl)) (by decide) (t := .long) (by decide) (t' := .long) (by decide)))
  have F679 := Fld.other W657 F665 (Or.inr (slot_ne (Or.inl (hW 82 _ rfl)) (Or.inl (hW 144 _ rfl)) (by decide) (t := .int) (by decide) (t' := .long) (by decide)))
  have F680 := Fld.other W657 F666 (Or.inr (slot_ne (Or.inl (hW 146 _ rfl)) (Or.inl (hW 144 _ rfl)) (by decide) (t := .int) (by decide) (t' := .long) (by decide)))
  have F681 := Fld.other W657 F667 (Or.inr (slot_ne (Or.inl (hW 142 _ rfl)) (Or.inl (hW 144 _ rfl)) (by decide) (t := .int) (by decide) (t' := .long) (by decide)))
  have F682 := Fld.other W657 F668 (Or.inr (slot_ne (Or.inl (hW 148 _ rfl)) (Or.inl (hW 144 _ rfl)) (by decide) (t := .int) (by decide) (t' := .long) (by decide)))
  have F683 := Fld.other W657 F669 (Or.inr (slot_ne (Or.inl (hW 163 _ rfl)) (Or.inl (hW 144 _ rfl)) (by decide) (t := .long) (by decide) (t' := .long) (by decide)))
  have F684 := Fld.other W657 F670 (Or.inr (slot_ne (Or.inl (hW 165 _ rfl)) (Or.inl (hW 144 _ rfl)) (by decide) (t := .long) (by decide) (t' := .long) (by decide)))
  have F685 := Fld.other W657 F671 (Or.inr (slot_ne (Or.inl (hW 167 _ rfl)) (Or.inl (hW 144 _ rfl)) (by decide) (t := .long) (by decide) (t' := .long) (by decide)))
  refine hG.st (fun t q => XS.iinc S657.here hx rfl (hb hby own_d16_32) rfl (l' := #[rv a, iv rov, iv 2, iv rbv, iv 2]) rfl (XS.goto S657.here hx rfl (pc0 := 35) (pc' := 6) rfl (hb hby own_d16_35) (by decide) (by decide) (XS.iload S657.here hx rfl (hb hby own_d16_6) rfl (XS.iloadN S657.here hx rfl (hb hby own_d16_8) rfl (XS.icmpYes S657.here hx rfl (pc0 := 9) (pc' := 38) rfl (hb hby own_d16_9) rfl (flt (by decide : ¬ ((2 : Int32) < (2 : Int32)))).2.1 (by decide) (by decide) (XS.aloadN S657.here hx rfl (hb hby own_d16_38) rfl rfl q)))))) ?_
  show G T657 (mkF m 39 #[rv a, iv rov, iv 2, iv rbv, iv 2] [(.ref a)])
  refine hG.st (fun t q => XS.iloadN S657.here hx rfl (hb hby own_d16_39) rfl q) ?_
  show G T657 (mkF m 40 #[rv a, iv rov, iv 2, iv rbv, iv 2] [(.int rov), (.ref a)])
  have E686 := J657.exa E656
  refine Own.Sit.putF hG S657 hx (host := "") (Or.inl (hW 145 _ rfl)) Via.refl F680 E686 (Or.inl (hW 146 _ rfl)) (hW 55 _ rfl) (ty := .int) (by decide) rfl rfl g_a (Safe.exa S657.warm.alike E686 (by decide) (by decide)) rfl rfl (hb hby own_d16_40) (fun T687 h687 S687 J687 W687 F687 => ?_)
  have F688 := Fld.other W687 F672 (Or.inr (slot_ne (Or.inl (hW 63 _ rfl)) (Or.inl (hW 146 _ rfl)) (by decide) (t := (.array .int)) (by decide) (t' := .int) (by decide)))
  have F689 := Fld.other W687 F673 (Or.inr (slot_ne (Or.inl (hW 80 _ rfl)) (Or.inl (hW 146 _ rfl)) (by decide) (t := .int) (by decide) (t' := .int) (by decide)))
  have F690 := Fld.other W687 F674 (Or.inr (slot_ne (Or.inl (hW 67 _ rfl)) (Or.inl (hW 146 _ rfl)) (by decide) (t := (.array (.object "java/lang/String"))) (by decide) (t' := .int) (by decide)))
  have F691 := Fld.other W687 F675 (Or.inr (slot_ne (Or.inl (hW 88 _ rfl)) (Or.inl (hW 146 _ rfl)) (by decide) (t := .int) (by decide) (t' := .int) (by decide)))
  have F692 := Fld.other W687 F676 (Or.inr (slot_ne (Or.inl (hW 69 _ rfl)) (Or.inl (hW 146 _ rfl)) (by decide) (t := (.array .byte)) (by decide) (t' := .int) (by decide)))
  have F693 := Fld.other W687 F677 (Or.inr (slot_ne (Or.inl (hW 122 _ rfl)) (Or.inl (hW 146 _ rfl)) (by decide) (t := .int) (by decide) (t' := .int) (by decide)))
  have F694 := Fld.other W687 F678 (Or.inr (slot_ne (Or.inl (hW 90 _ rfl)) (Or.inl (hW 146 _ rfl)) (by decide) (t := .long) (by decide) (t' := .int) (by decide)))
  have F695 := Fld.other W687 F679 (Or.inr (slot_ne (Or.inl (hW 82 _ rfl)) (Or.inl (hW 146 _ rfl)) (by decide) (t := .int) (by decide) (t' := .int) (by decide)))
  have F696 := Fld.other W687 F681 (Or.inr (slot_ne (Or.inl (hW 142 _ rfl)) (Or.inl (hW 146 _ rfl)) (by decide) (t := .int) (by decide) (t' := .int) (by decide)))
  have F697 := Fld.other W687 F682 (Or.inr (slot_ne (Or.inl (hW 148 _ rfl)) (Or.inl (hW 146 _ rfl)) (by decide) (t := .int) (by decide) (t' := .int) (by decide)))
  have F698 := Fld.other W687 F657 (Or.inr (slot_ne (Or.inl (hW 144 _ rfl)) (Or.inl (hW 146 _ rfl)) (by decide) (t := .long) (by decide) (t' := .int) (by decide)))
  have F699 := Fld.other W687 F683 (Or.inr (slot_ne (Or.inl (hW 163 _ rfl)) (Or.inl (hW 146 _ rfl)) (by decide) (t := .long) (by decide) (t' := .int) (by decide)))
  have F700 := Fld.other W687 F684 (Or.inr (slot_ne (Or.inl (hW 165 _ rfl)) (Or.inl (hW 146 _ rfl)) (by decide) (t := .long) (by decide) (t' := .int) (by decide)))
  have F701 := Fld.other W687 F685 (Or.inr (slot_ne (Or.inl (hW 167 _ rfl)) (Or.inl (hW 146 _ rfl)) (by decide) (t := .long) (by decide) (t' := .int) (by decide)))
  refine hG.st (fun t q => XS.aloadN S687.here hx rfl (hb hby own_d16_43) rfl rfl (XS.iloadN S687.here hx rfl (hb hby own_d16_44) rfl q)) ?_
  show G T687 (mkF m 45 #[rv a, iv rov, iv 2, iv rbv, iv 2] [(.int 2), (.ref a)])
  have E702 := J687.exa E686
  refine Own.Sit.putF hG S687 hx (host := "") (Or.inl (hW 141 _ rfl)) Via.refl F696 E702 (Or.inl (hW 142 _ rfl)) (hW 55 _ rfl) (ty := .int) (by decide) rfl rfl g_a (Safe.exa S687.warm.alike E702 (by decide) (by decide)) rfl rfl (hb hby own_d16_45) (fun T703 h703 S703 J703 W703 F703 => ?_)
  have F704 := Fld.other W703 F688 (Or.inr (slot_ne (Or.inl (hW 63 _ rfl)) (Or.inl (hW 142 _ rfl)) (by decide) (t := (.array .int)) (by decide) (t' := .int) (by decide)))
  have F705 := Fld.other W703 F689 (Or.inr (slot_ne (Or.inl (hW 80 _ rfl)) (Or.inl (hW 142 _ rfl)) (by decide) (t := .int) (by decide) (t' := .int) (by decide)))
  have F706 := Fld.other W703 F690 (Or.inr (slot_ne (Or.inl (hW 67 _ rfl)) (Or.inl (hW 142 _ rfl)) (by decide) (t := (.array (.object "java/lang/String"))) (by decide) (t' := .int) (by decide)))
  have F707 := Fld.other W703 F691 (Or.inr (slot_ne (Or.inl (hW 88 _ rfl)) (Or.inl (hW 142 _ rfl)) (by decide) (t := .int) (by decide) (t' := .int) (by decide)))
  have F708 := Fld.other W703 F692 (Or.inr (slot_ne (Or.inl (hW 69 _ rfl)) (Or.inl (hW 142 _ rfl)) (by decide) (t := (.array .byte)) (by decide) (t' := .int) (by decide)))
  have F709 := Fld.other W703 F693 (Or.inr (slot_ne (Or.inl (hW 122 _ rfl)) (Or.inl (hW 142 _ rfl)) (by decide) (t := .int) (by decide) (t' := .int) (by decide)))
  have F710 := Fld.other W703 F694 (Or.inr (slot_ne (Or.inl (hW 90 _ rfl)) (Or.inl (hW 142 _ rfl)) (by decide) (t := .long) (by decide) (t' := .int) (by decide)))
  have F711 := Fld.other W703 F695 (Or.inr (slot_ne (Or.inl (hW 82 _ rfl)) (Or.inl (hW 142 _ rfl)) (by decide) (t := .int) (by decide) (t' := .int) (by decide)))
  have F712 := Fld.other W703 F687 (Or.inr (slot_ne (Or.inl (hW 146 _ rfl)) (Or.inl (hW 142 _ rfl)) (by decide) (t := .int) (by decide) (t' := .int) (by decide)))
  have F713 := Fld.other W703 F697 (Or.inr (slot_ne (Or.inl (hW 148 _ rfl)) (Or.inl (hW 142 _ rfl)) (by decide) (t := .int) (by decide) (t' := .int) (by decide)))
  have F714 := Fld.other W703 F698 (Or.inr (slot_ne (Or.inl (hW 144 _ rfl)) (Or.inl (hW 142 _ rfl)) (by decide) (t := .long) (by decide) (t' := .int) (by decide)))
  have F715 := Fld.other W703 F699 (Or.inr (slot_ne (Or.inl (hW 163 _ rfl)) (Or.inl (hW 142 _ rfl)) (by decide) (t := .long) (by decide) (t' := .int) (by decide)))
  have F716 := Fld.other W703 F700 (Or.inr (slot_ne (Or.inl (hW 165 _ rfl)) (Or.inl (hW 142 _ rfl)) (by decide) (t := .long) (by decide) (t' := .int) (by decide)))
  have F717 := Fld.other W703 F701 (Or.inr (slot_ne (Or.inl (hW 167 _ rfl)) (Or.inl (hW 142 _ rfl)) (by decide) (t := .long) (by decide) (t' := .int) (by decide)))
  refine hG.st (fun t q => XS.aloadN S703.here hx rfl (hb hby own_d16_48) rfl rfl (XS.iloadN S703.here hx rfl (hb hby own_d16_49) rfl q)) ?_
  show G T703 (mkF m 50 #[rv a, iv rov, iv 2, iv rbv, iv 2] [(.int rbv), (.ref a)])
  have E718 := J703.exa E702
  refine Own.Sit.putF hG S703 hx (host := "") (Or.inl (hW 147 _ rfl)) Via.refl F713 E718 (Or.inl (hW 148 _ rfl)) (hW 55 _ rfl) (ty := .int) (by decide) rfl rfl g_a (Safe.exa S703.warm.alike E718 (by decide) (by decide)) rfl rfl (hb hby own_d16_50) (fun T719 h719 S719 J719 W719 F719 => ?_)
  have F720 := Fld.other W719 F704 (Or.inr (slot_ne (Or.inl (hW 63 _ rfl)) (Or.inl (hW 148 _ rfl)) (by decide) (t := (.array .int)) (by decide) (t' := .int) (by decide)))
  have F721 := Fld.other W719 F705 (Or.inr (slot_ne (Or.inl (hW 80 _ rfl)) (Or.inl (hW 148 _ rfl)) (by decide) (t := .int) (by decide) (t' := .int) (by decide)))
  have F722 := Fld.other W719 F706 (Or.inr (slot_ne (Or.inl (hW 67 _ rfl)) (Or.inl (hW 148 _ rfl)) (by decide) (t := (.array (.object "java/lang/String"))) (by decide) (t' := .int) (by decide)))
  have F723 := Fld.other W719 F707 (Or.inr (slot_ne (Or.inl (hW 88 _ rfl)) (Or.inl (hW 148 _ rfl)) (by decide) (t := .int) (by decide) (t' := .int) (by decide)))
  have F724 := Fld.other W719 F708 (Or.inr (slot_ne (Or.inl (hW 69 _ rfl)) (Or.inl (hW 148 _ rfl)) (by decide) (t := (.array .byte)) (by decide) (t' := .int) (by decide)))
  have F725 := Fld.other W719 F709 (Or.inr (slot_ne (Or.inl (hW 122 _ rfl)) (Or.inl (hW 148 _ rfl)) (by decide) (t := .int) (by decide) (t' := .int) (by decide)))
  have F726 := Fld.other W719 F710 (Or.inr (slot_ne (Or.inl (hW 90 _ rfl)) (Or.inl (hW 148 _ rfl)) (by decide) (t := .long) (by decide) (t' := .int) (by decide)))
  have F727 := Fld.other W719 F711 (Or.inr (slot_ne (Or.inl (hW 82 _ rfl)) (Or.inl (hW 148 _ rfl)) (by decide) (t := .int) (by decide) (t' := .int) (by decide)))
  have F728 := Fld.other W719 F712 (Or.inr (slot_ne (Or.inl (hW 146 _ rfl)) (Or.inl (hW 148 _ rfl)) (by decide) (t := .int) (by decide) (t' := .int) (by decide)))
  have F729 := Fld.other W719 F703 (Or.inr (slot_ne (Or.inl (hW 142 _ rfl)) (Or.inl (hW 148 _ rfl)) (by decide) (t := .int) (by decide) (t' := .int) (by decide)))
  have F730 := Fld.other W719 F714 (Or.inr (slot_ne (Or.inl (hW 144 _ rfl)) (Or.inl (hW 148 _ rfl)) (by decide) (t := .long) (by decide) (t' := .int) (by decide)))
  have F731 := Fld.other W719 F715 (Or.inr (slot_ne (Or.inl (hW 163 _ rfl)) (Or.inl (hW 148 _ rfl)) (by decide) (t := .long) (by decide) (t' := .int) (by decide)))
  have F732 := Fld.other W719 F716 (Or.inr (slot_ne (Or.inl (hW 165 _ rfl)) (Or.inl (hW 148 _ rfl)) (by decide) (t := .long) (by decide) (t' := .int) (by decide)))
  have F733 := Fld.other W719 F717 (Or.inr (slot_ne (Or.inl (hW 167 _ rfl)) (Or.inl (hW 148 _ rfl)) (by decide) (t := .long) (by decide) (t' := .int) (by decide)))
  have J734 : Own.Stp Z consts_1 vm0 h0 vm653 h653 [a] := Own.Stp.trans J650 J653 (allS (List.mem_of_getElem? (i := 0) rfl) (all0)) all0
  have J735 : Own.Stp Z consts_1 vm0 h0 vm653 h657 [a] := Own.Stp.trans J734 J657 (allS (List.mem_of_getElem? (i := 0) rfl) (all0)) (allS (Or.inl (List.mem_of_getElem? (i := 0) rfl)) all0)
  have J736 : Own.Stp Z consts_1 vm0 h0 vm653 h687 [a] := Own.Stp.trans J735 J687 (allS (List.mem_of_getElem? (i := 0) rfl) (all0)) (allS (Or.inl (List.mem_of_getElem? (i := 0) rfl)) all0)
  have J737 : Own.Stp Z consts_1 vm0 h0 vm653 h703 [a] := Own.Stp.trans J736 J703 (allS (List.mem_of_getElem? (i := 0) rfl) (all0)) (allS (Or.inl (List.mem_of_getElem? (i := 0) rfl)) all0)
  have J738 : Own.Stp Z consts_1 vm0 h0 vm653 h719 [a] := Own.Stp.trans J737 J719 (allS (List.mem_of_getElem? (i := 0) rfl) (all0)) (allS (Or.inl (List.mem_of_getElem? (i := 0) rfl)) all0)
  have E739 := J719.exa E718
  show G T719 (mkF m 53 #[rv a, iv rov, iv 2, iv rbv, iv 2] [])
  exact Own.Sit.ret0 hR S719 hx hret (hb hby own_d16_53) (by decide) (by decide) ⟨J738.1, rfl, ⟨E739, F720, F721, F722, F723, F724, F725, F726, F727, F728, F729, F719, F730, F731, F732, F733⟩⟩
theorem own_ef_own_mark04 (m : MethodId) (a : Addr) (rov : Int32) (rbv : Int32) : entryFrame m #[(.ref a), (.int rov), (.int 4), (.int rbv)] 5 = mkF m 0 #[rv a, iv rov, iv 4, iv rbv, .unset] [] := by first | (simp [entryFrame, mkF, argsToLocals, Value.category]; done) | rfl
set_option maxRecDepth 65536 in
set_option maxHeartbeats 40000000 in
theorem own_mark04 (l : Launch) (Z : State) (a0 : Array Value) (H : own_Wld Z a0) {cw : List Jvm.Cond} (a : Addr) (rov : Int32) (rbv : Int32) (o : Addr) (oc : Int32) (st : Addr) (sc : Int32) (bt : Addr) (bc : Int32) (ch : Int64) (lst : Int32) (ro : Int32) (rb : Int32) (rch : Int64) (ob : Int64) (sb : Int64) (bb : Int64) (u0 : Value) (u1 : Value) (u2 : Value) (u3 : Value) (n_u0 : Int32) (n_u1 : Int32) (n_u2 : Int32) (n_u3 : Int32) (B : Nat) (h0 : Heap) (O0 : Ext Z.heap h0) (OB : own_Ob Z h0 a o oc st sc bt bc ch lst ro 0 rb rch ob sb bb) {ks : ClassId} (SA : own_SA Z h0 st ks [u0, u1, u2, u3]) (N_u0 : own_NS Z h0 B u0 n_u0) (N_u1 : own_NS Z h0 B u1 n_u1) (N_u2 : own_NS Z h0 B u2 n_u2) (N_u3 : own_NS Z h0 B u3 n_u3) (ba : B ≤ a) (bs : B ≤ st) (g_a : Z.heap.size ≤ a) (g_s : Z.heap.size ≤ st) :
    Own.Con l Z consts_1 (⟨"com/example/scholiast/scholiast/XmlEvents", "markReleased", "(III)V"⟩ : MethodName) prog_53_method_26_code 5 none cw ({ frames := 3, cells := 0, slots := 0, locals := 40 } : Room) #[(.ref a), (.int rov), (.int 4), (.int rbv)] h0 (fun v h => Keep h0 h [a] ∧ v = none ∧ own_Ob Z h a o oc st sc bt bc ch lst rov 4 rbv ((((rch + n_u0.toInt64) + n_u1.toInt64) + n_u2.toInt64) + n_u3.toInt64) ob sb bb) := by
  have hw := H.1
  have hW := fun (i : Nat) (w : Jvm.Cond) (e : tables_1[i]? = some w) => hw w (List.mem_of_getElem? e)
  have hCm := H.2.1
  have hSi := H.2.2.1
  have hEL := H.2.2.2
  have hWs : ∀ d ∈ StrChars.Road.words, d.before a0 Z = true := fun d hd => hw d (own_wbackV d hd)
  have hWl : ∀ d ∈ StrChars.Road.wordsLen, d.before a0 Z = true := fun d hd => hw d (own_wlenW d hd)
  have hSA : ∀ d ∈ Bundle.stringAtoms, d.before a0 Z = true := fun d hd => hw d (own_wSA d hd)
  refine Own.Con.of own_pnc10fb3 hEL O0 ?_
  intro p e s m below meth c T0 G vm0 hx hby hml hret hnm hG hR S0
  have hz : ∀ L : Array Slot, L.size = 5 → L.size = c.maxLocals := fun L q => q.trans hml.symm
  rw [own_ef_own_mark04]
  show G T0 (mkF m 0 #[rv a, iv rov, iv 4, iv rbv, .unset] [])
  obtain ⟨E_a740, F740_o, F740_oc, F740_st, F740_sc, F740_bt, F740_bc, F740_ch, F740_lst, F740_ro, F740_rs, F740_rb, F740_rch, F740_ob, F740_sb, F740_bb⟩ := id OB
  obtain ⟨As, hOv⟩ := id SA
  refine hG.st (fun t q => XS.aloadN S0.here hx rfl (hb hby own_d16_0) rfl rfl q) ?_
  show G T0 (mkF m 1 #[rv a, iv rov, iv 4, iv rbv, .unset] [(.ref a)])
  refine Own.Sit.getF hG S0 hx (host := "") (Or.inl (hW 141 _ rfl)) Via.refl F740_rs rfl rfl (hb hby own_d16_1) (fun T741 S741 => ?_)
  refine hG.st (fun t q => XS.istore S741.here hx rfl (hb hby own_d16_4) rfl (l' := #[rv a, iv rov, iv 4, iv rbv, iv 0]) rfl (XS.iload S741.here hx rfl (hb hby own_d16_6) rfl (XS.iloadN S741.here hx rfl (hb hby own_d16_8) rfl (XS.icmpNo S741.here hx rfl (hb hby own_d16_9) rfl (tlt (by decide : (0 : Int32) < (4 : Int32))).2.1 (XS.aloadN S741.here hx rfl (hb hby own_d16_12) rfl rfl (XS.dup S741.here hx rfl (hb hby own_d16_13) rfl rfl q)))))) ?_
  show G T741 (mkF m 14 #[rv a, iv rov, iv 4, iv rbv, iv 0] [(.ref a), (.ref a)])
  refine Own.Sit.getF hG S741 hx (host := "") (Or.inl (hW 143 _ rfl)) Via.refl F740_rch rfl rfl (hb hby own_d16_14) (fun T742 S742 => ?_)
  refine hG.st (fun t q => XS.aloadN S742.here hx rfl (hb hby own_d16_17) rfl rfl q) ?_
  show G T742 (mkF m 18 #[rv a, iv rov, iv 4, iv rbv, iv 0] [(.ref a), (.long rch), (.ref a)])
  refine Own.Sit.getF hG S742 hx (host := "") (Or.inl (hW 66 _ rfl)) Via.refl F740_st rfl rfl (hb hby own_d16_18) (fun T743 S743 => ?_)
  refine hG.st (fun t q => XS.iload S743.here hx rfl (hb hby own_d16_21) rfl q) ?_
  show G T743 (mkF m 23 #[rv a, iv rov, iv 4, iv rbv, iv 0] [(.int 0), (.ref st), (.long rch), (.ref a)])
  refine Own.Sit.aaload hG S743 hx As rfl ⟨by decide, by decide⟩ rfl rfl rfl (hb hby own_d16_23) ?_
  show G T743 (mkF m 24 #[rv a, iv rov, iv 4, iv rbv, iv 0] [u0, (.long rch), (.ref a)])
  refine Own.Sit.callS hG S743 hx hEL (as := [u0]) (hW 91 _ rfl) (hW 92 _ rfl) (hW 56 _ rfl) (hW 93 _ rfl) (by decide) (own_len l Z a0 H u0 n_u0 B h0 S743.old N_u0) own_pdb70cb2 rfl rfl (hz _ rfl) (rest := [(.long rch), (.ref a)]) rfl (W := 3) (Own.hw0 rfl rfl) (hb hby own_d16_24) (by decide) (by decide) (by decide) (by decide) (fun v744 vm744 T744 h744 S744 C744 q744 => ?_)
  obtain ⟨K744, rfl⟩ := q744
  have J744 : Own.Stp Z consts_1 vm0 h0 vm744 h744 [] := ⟨K744, C744⟩
  refine hG.st (fun t q => XS.i2l S744.here hx rfl (hb hby own_d16_27) rfl (XS.ladd S744.here hx rfl (hb hby own_d16_28) rfl q)) ?_
  show G T744 (mkF m 29 #[rv a, iv rov, iv 4, iv rbv, iv 0] [(.long (rch + (n_u0.toInt64))), (.ref a)])
  have F745 := J744.fld F740_rch nin0
  have E746 := J744.exa E_a740
  have F748 := J744.fld F740_o nin0
  have F749 := J744.fld F740_oc nin0
  have F750 := J744.fld F740_st nin0
  have F751 := J744.fld F740_sc nin0
  have F752 := J744.fld F740_bt nin0
  have F753 := J744.fld F740_bc nin0
  have F754 := J744.fld F740_ch nin0
  have F755 := J744.fld F740_lst nin0
  have F756 := J744.fld F740_ro nin0
  have F757 := J744.fld F740_rs nin0
  have F758 := J744.fld F740_rb nin0
  have F759 := J744.fld F740_ob nin0
  have F760 := J744.fld F740_sb nin0
  have F761 := J744.fld F740_bb nin0
  refine Own.Sit.putF hG S744 hx (host := "") (Or.inl (hW 143 _ rfl)) Via.refl F745 E746 (Or.inl (hW 144 _ rfl)) (hW 55 _ rfl) (ty := .long) (by decide) rfl rfl g_a (Safe.exa S744.warm.alike E746 (by decide) (by decide)) rfl rfl (hb hby own_d16_29) (fun T747 h747 S747 J747 W747 F747 => ?_)
  have F762 := Fld.other W747 F748 (Or.inr (slot_ne (Or.inl (hW 63 _ rfl)) (Or.inl (hW 144 _ rfl)) (by decide) (t := (.array .int)) (by decide) (t' := .long) (by decide)))
  have F763 := Fld.other W747 F749 (Or.inr (slot_ne (Or.inl (hW 80 _ rfl)) (Or.inl (hW 144 _ rfl)) (by decide) (t := .int) (by decide) (t' := .long) (by decide)))
  have F764 := Fld.other W747 F750 (Or.inr (slot_ne (Or.inl (hW 67 _ rfl)) (Or.inl (hW 144 _ rfl)) (by decide) (t := (.array (.object "java/lang/String"))) (by decide) (t' := .long) (by decide)))
  have F765 := Fld.other W747 F751 (Or.inr (slot_ne (Or.inl (hW 88 _ rfl)) (Or.inl (hW 144 _ rfl)) (by decide) (t := .int) (by decide) (t' := .long) (by decide)))
  have F766 := Fld.other W747 F752 (Or.inr (slot_ne (Or.inl (hW 69 _ rfl)) (Or.inl (hW 144 _ rfl)) (by decide) (t := (.array .byte)) (by decide) (t' := .long) (by decide)))
  have F767 := Fld.other W747 F753 (Or.inr (slot_ne (Or.inl (hW 122 _ rfl)) (Or.inl (hW 144 _ rfl)) (by decide) (t := .int) (by decide) (t' := .long) (by decide)))
  have F768 := Fld.other W747 F754 (Or.inr (slot_ne (Or.inl (hW 90 _ rfl)) (Or.inl (hW 144 _ rfl)) (by decide) (t := .long) (by decide) (t' := .long) (by decide)))
  have F769 := Fld.other W747 F755 (Or.inr (slot_ne (Or.inl (hW 82 _ rfl)) (Or.inl (hW 144 _ rfl)) (by decide) (t := .int) (by decide) (t' := .long) (by decide)))
  have F770 := Fld.other W747 F756 (Or.inr (slot_ne (Or.inl (hW 146 _ rfl)) (Or.inl (hW 144 _ rfl)) (by decide) (t := .int) (by decide) (t' := .long) (by decide)))
  have F771 := Fld.other W747 F757 (Or.inr (slot_ne (Or.inl (hW 142 _ rfl)) (Or.inl (hW 144 _ rfl)) (by decide) (t := .int) (by decide) (t' := .long) (by decide)))
  have F772 := Fld.other W747 F758 (Or.inr (slot_ne (Or.inl (hW 148 _ rfl)) (Or.inl (hW 144 _ rfl)) (by decide) (t := .int) (by decide) (t' := .long) (by decide)))
  have F773 := Fld.other W747 F759 (Or.inr (slot_ne (Or.inl (hW 163 _ rfl)) (Or.inl (hW 144 _ rfl)) (by decide) (t := .long) (by decide) (t' := .long) (by decide)))
  have F774 := Fld.other W747 F760 (Or.inr (slot_ne (Or.inl (hW 165 _ rfl)) (Or.inl (hW 144 _ rfl)) (by decide) (t := .long) (by decide) (t' := .long) (by decide)))
  have F775 := Fld.other W747 F761 (Or.inr (slot_ne (Or.inl (hW 167 _ rfl)) (Or.inl (hW 144 _ rfl)) (by decide) (t := .long) (by decide) (t' := .long) (by decide)))
  refine hG.st (fun t q => XS.iinc S747.here hx rfl (hb hby own_d16_32) rfl (l' := #[rv a, iv rov, iv 4, iv rbv, iv 1]) rfl (XS.goto S747.here hx rfl (pc0 := 35) (pc' := 6) rfl (hb hby own_d16_35) (by decide) (by decide) (XS.iload S747.here hx rfl (hb hby own_d16_6) rfl (XS.iloadN S747.here hx rfl (hb hby own_d16_8) rfl (XS.icmpNo S747.here hx rfl (hb hby own_d16_9) rfl (tlt (by decide : (1 : Int32) < (4 : Int32))).2.1 (XS.aloadN S747.here hx rfl (hb hby own_d16_12) rfl rfl q)))))) ?_
  show G T747 (mkF m 13 #[rv a, iv rov, iv 4, iv rbv, iv 1] [(.ref a)])
  refine hG.st (fun t q => XS.dup S747.here hx rfl (hb hby own_d16_13) rfl rfl q) ?_
  show G T747 (mkF m 14 #[rv a, iv rov, iv 4, iv rbv, iv 1] [(.ref a), (.ref a)])
  refine Own.Sit.getF hG S747 hx (host := "") (Or.inl (hW 143 _ rfl)) Via.refl F747 rfl rfl (hb hby own_d16_14) (fun T776 S776 => ?_)
  refine hG.st (fun t q => XS.aloadN S776.here hx rfl (hb hby own_d16_17) rfl rfl q) ?_
  show G T776 (mkF m 18 #[rv a, iv rov, iv 4, iv rbv, iv 1] [(.ref a), (.long (rch + (n_u0.toInt64))), (.ref a)])
  refine Own.Sit.getF hG S776 hx (host := "") (Or.inl (hW 66 _ rfl)) Via.refl F764 rfl rfl (hb hby own_d16_18) (fun T777 S777 => ?_)
  refine hG.st (fun t q => XS.iload S777.here hx rfl (hb hby own_d16_21) rfl q) ?_
  show G T777 (mkF m 23 #[rv a, iv rov, iv 4, iv rbv, iv 1] [(.int 1), (.ref st), (.long (rch + (n_u0.toInt64))), (.ref a)])
  have J778 : Own.Stp Z consts_1 vm0 h0 vm744 h747 [a] := Own.Stp.trans J744 J747 (all0) (allS (Or.inl (List.mem_of_getElem? (i := 0) rfl)) all0)
  have V779 := J778.arv As (ninS (Ne.symm (Exa.neArv E_a740 As (hW 55 _ rfl))) nin0)
  refine Own.Sit.aaload hG S777 hx V779 rfl ⟨by decide, by decide⟩ rfl rfl rfl (hb hby own_d16_23) ?_
  show G T777 (mkF m 24 #[rv a, iv rov, iv 4, iv rbv, iv 1] [u1, (.long (rch + (n_u0.toInt64))), (.ref a)])
  have N780 := own_NS.stp N_u1 J778 (allS ba all0)
  refine Own.Sit.callS hG S777 hx hEL (as := [u1]) (hW 91 _ rfl) (hW 92 _ rfl) (hW 56 _ rfl) (hW 93 _ rfl) (by decide) (own_len l Z a0 H u1 n_u1 B h747 S777.old N780) own_pdb70cb2 rfl rfl (hz _ rfl) (rest := [(.long (rch + (n_u0.toInt64))), (.ref a)]) rfl (W := 3) (Own.hw0 rfl rfl) (hb hby own_d16_24) (by decide) (by decide) (by decide) (by decide) (fun v781 vm781 T781 h781 S781 C781 q781 => ?_)
  obtain ⟨K781, rfl⟩ := q781
  have J781 : Own.Stp Z consts_1 vm744 h747 vm781 h781 [] := ⟨K781, C781⟩
  refine hG.st (fun t q => XS.i2l S781.here hx rfl (hb hby own_d16_27) rfl (XS.ladd S781.here hx rfl (hb hby own_d16_28) rfl q)) ?_
  show G T781 (mkF m 29 #[rv a, iv rov, iv 4, iv rbv, iv 1] [(.long ((rch + (n_u0.toInt64)) + (n_u1.toInt64))), (.ref a)])
  have F782 := J781.fld F747 nin0
  have J783 : Own.Stp Z consts_1 vm744 h744 vm781 h781 [a] := Own.Stp.trans J747 J781 (allS (List.mem_of_getElem? (i := 0) rfl) (all0)) all0
  have E784 := J783.exa E746
  have F786 := J781.fld F762 nin0
  have F787 := J781.fld F763 nin0
  have F788 := J781.fld F764 nin0
  have F789 := J781.fld F765 nin0
  have F790 := J781.fld F766 nin0
  have F791 := J781.fld F767 nin0
  have F792 := J781.fld F768 nin0
  have F793 := J781.fld F769 nin0
  have F794 := J781.fld F770 nin0
  have F795 := J781.fld F771 nin0
  have F796 := J781.fld F772 nin0
  have F797 := J781.fld F773 nin0
  have F798 := J781.fld F774 nin0
  have F799 := J781.fld F775 nin0
  refine Own.Sit.putF hG S781 hx (host := "") (Or.inl (hW 143 _ rfl)) Via.refl F782 E784 (Or.inl (hW 144 _ rfl)) (hW 55 _ rfl) (ty := .long) (by decide) rfl rfl g_a (Safe.exa S781.warm.alike E784 (by decide) (by decide)) rfl rfl (hb hby own_d16_29) (fun T785 h785 S785 J785 W785 F785 => ?_)
  have F800 := Fld.other W785 F786 (Or.inr (slot_ne (Or.inl (hW 63 _ rfl)) (Or.inl (hW 144 _ rfl)) (by decide) (t := (.array .int)) (by decide) (t' := .long) (by decide)))
  have F801 := Fld.other W785 F787 (Or.inr (slot_ne (Or.inl (hW 80 _ rfl)) (Or.inl (hW 144 _ rfl)) (by decide) (t := .int) (by decide) (t' := .long) (by decide)))
  have F802 := Fld.other W785 F788 (Or.inr (slot_ne (Or.inl (hW 67 _ rfl)) (Or.inl (hW 144 _ rfl)) (by decide) (t := (.array (.object "java/lang/String"))) (by decide) (t' := .long) (by decide)))
  have F803 := Fld.other W785 F789 (Or.inr (slot_ne (Or.inl (hW 88 _ rfl)) (Or.inl (hW 144 _ rfl)) (by decide) (t := .int) (by decide) (t' := .long) (by decide)))
  have F804 := Fld.other W785 F790 (Or.inr (slot_ne (Or.inl (hW 69 _ rfl)) (Or.inl (hW 144 _ rfl)) (by decide) (t := (.array .byte)) (by decide) (t' := .long) (by decide)))
  have F805 := Fld.other W785 F791 (Or.inr (slot_ne (Or.inl (hW 122 _ rfl)) (Or.inl (hW 144 _ rfl)) (by decide) (t := .int) (by decide) (t' := .long) (by decide)))
  have F806 := Fld.other W785 F792 (Or.inr (slot_ne (Or.inl (hW 90 _ rfl)) (Or.inl (hW 144 _ rfl)) (by decide) (t := .long) (by decide) (t' := .long) (by decide)))
  have F807 := Fld.other W785 F793 (Or.inr (slot_ne (Or.inl (hW 82 _ rfl)) (Or.inl (hW 144 _ rfl)) (by decide) (t := .int) (by decide) (t' := .long) (by decide)))
  have F808 := Fld.other W785 F794 (Or.inr (slot_ne (Or.inl (hW 146 _ rfl)) (Or.inl (hW 144 _ rfl)) (by decide) (t := .int) (by decide) (t' := .long) (by decide)))
  have F809 := Fld.other W785 F795 (Or.inr (slot_ne (Or.inl (hW 142 _ rfl)) (Or.inl (hW 144 _ rfl)) (by decide) (t := .int) (by decide) (t' := .long) (by decide)))
  have F810 := Fld.other W785 F796 (Or.inr (slot_ne (Or.inl (hW 148 _ rfl)) (Or.inl (hW 144 _ rfl)) (by decide) (t := .int) (by decide) (t' := .long) (by decide)))
  have F811 := Fld.other W785 F797 (Or.inr (slot_ne (Or.inl (hW 163 _ rfl)) (Or.inl (hW 144 _ rfl)) (by decide) (t := .long) (by decide) (t' := .long) (by decide)))
  have F812 := Fld.other W785 F798 (Or.inr (slot_ne (Or.inl (hW 165 _ rfl)) (Or.inl (hW 144 _ rfl)) (by decide) (t := .long) (by decide) (t' := .long) (by decide)))
  have F813 := Fld.other W785 F799 (Or.inr (slot_ne (Or.inl (hW 167 _ rfl)) (Or.inl (hW 144 _ rfl)) (by decide) (t := .long) (by decide) (t' := .long) (by decide)))
  refine hG.st (fun t q => XS.iinc S785.here hx rfl (hb hby own_d16_32) rfl (l' := #[rv a, iv rov, iv 4, iv rbv, iv 2]) rfl (XS.goto S785.here hx rfl (pc0 := 35) (pc' := 6) rfl (hb hby own_d16_35) (by decide) (by decide) (XS.iload S785.here hx rfl (hb hby own_d16_6) rfl (XS.iloadN S785.here hx rfl (hb hby own_d16_8) rfl (XS.icmpNo S785.here hx rfl (hb hby own_d16_9) rfl (tlt (by decide : (2 : Int32) < (4 : Int32))).2.1 (XS.aloadN S785.here hx rfl (hb hby own_d16_12) rfl rfl q)))))) ?_
  show G T785 (mkF m 13 #[rv a, iv rov, iv 4, iv rbv, iv 2] [(.ref a)])
  refine hG.st (fun t q => XS.dup S785.here hx rfl (hb hby own_d16_13) rfl rfl q) ?_
  show G T785 (mkF m 14 #[rv a, iv rov, iv 4, iv rbv, iv 2] [(.ref a), (.ref a)])
  refine Own.Sit.getF hG S785 hx (host := "") (Or.inl (hW 143 _ rfl)) Via.refl F785 rfl rfl (hb hby own_d16_14) (fun T814 S814 => ?_)
  refine hG.st (fun t q => XS.aloadN S814.here hx rfl (hb hby own_d16_17) rfl rfl q) ?_
  show G T814 (mkF m 18 #[rv a, iv rov, iv 4, iv rbv, iv 2] [(.ref a), (.long ((rch + (n_u0.toInt64)) + (n_u1.toInt64))), (.ref a)])
  refine Own.Sit.getF hG S814 hx (host := "") (Or.inl (hW 66 _ rfl)) Via.refl F802 rfl rfl (hb hby own_d16_18) (fun T815 S815 => ?_)
  refine hG.st (fun t q => XS.iload S815.here hx rfl (hb hby own_d16_21) rfl q) ?_
  show G T815 (mkF m 23 #[rv a, iv rov, iv 4, iv rbv, iv 2] [(.int 2), (.ref st), (.long ((rch + (n_u0.toInt64)) + (n_u1.toInt64))), (.ref a)])
  have J816 : Own.Stp Z consts_1 vm744 h747 vm781 h785 [a] := Own.Stp.trans J781 J785 (all0) (allS (Or.inl (List.mem_of_getElem? (i := 0) rfl)) all0)
  have V817 := J816.arv V779 (ninS (Ne.symm (Exa.neArv (J778.exa E_a740) V779 (hW 55 _ rfl))) nin0)
  refine Own.Sit.aaload hG S815 hx V817 rfl ⟨by decide, by decide⟩ rfl rfl rfl (hb hby own_d16_23) ?_
  show G T815 (mkF m 24 #[rv a, iv rov, iv 4, iv rbv, iv 2] [u2, (.long ((rch + (n_u0.toInt64)) + (n_u1.toInt64))), (.ref a)])
  have J818 : Own.Stp Z consts_1 vm0 h0 vm781 h781 [a] := Own.Stp.trans J778 J781 (allS (List.mem_of_getElem? (i := 0) rfl) (all0)) all0
  have J819 : Own.Stp Z consts_1 vm0 h0 vm781 h785 [a] := Own.Stp.trans J818 J785 (allS (List.mem_of_getElem? (i := 0) rfl) (all0)) (allS (Or.inl (List.mem_of_getElem? (i := 0) rfl)) all0)
  have N820 := own_NS.stp N_u2 J819 (allS ba all0)
  refine Own.Sit.callS hG S815 hx hEL (as := [u2]) (hW 91 _ rfl) (hW 92 _ rfl) (hW 56 _ rfl) (hW 93 _ rfl) (by decide) (own_len l Z a0 H u2 n_u2 B h785 S815.old N820) own_pdb70cb2 rfl rfl (hz _ rfl) (rest := [(.long ((rch + (n_u0.toInt64)) + (n_u1.toInt64))), (.ref a)]) rfl (W := 3) (Own.hw0 rfl rfl) (hb hby own_d16_24) (by decide) (by decide) (by decide) (by decide) (fun v821 vm821 T821 h821 S821 C821 q821 => ?_)
  obtain ⟨K821, rfl⟩ := q821
  have J821 : Own.Stp Z consts_1 vm781 h785 vm821 h821 [] := ⟨K821, C821⟩
  refine hG.st (fun t q => XS.i2l S821.here hx rfl (hb hby own_d16_27) rfl (XS.ladd S821.here hx rfl (hb hby own_d16_28) rfl q)) ?_
  show G T821 (mkF m 29 #[rv a, iv rov, iv 4, iv rbv, iv 2] [(.long (((rch + (n_u0.toInt64)) + (n_u1.toInt64)) + (n_u2.toInt64))), (.ref a)])
  have F822 := J821.fld F785 nin0
  have J823 : Own.Stp Z consts_1 vm781 h781 vm821 h821 [a] := Own.Stp.trans J785 J821 (allS (List.mem_of_getElem? (i := 0) rfl) (all0)) all0
  have E824 := J823.exa E784
  have F826 := J821.fld F800 nin0
  have F827 := J821.fld F801 nin0
  have F828 := J821.fld F802 nin0
  have F829 := J821.fld F803 nin0
  have F830 := J821.fld F804 nin0
  have F831 := J821.fld F805 nin0
  have F832 := J821.fld F806 nin0
  have F833 := J821.fld F807 nin0
  have F834 := J821.fld F808 nin0
  have F835 := J821.fld F809 nin0
  have F836 := J821.fld F810 nin0
  have F837 := J821.fld F811 nin0
  have F838 := J821.fld F812 nin0
  have F839 := J821.fld F813 nin0
  refine Own.Sit.putF hG S821 hx (host := "") (Or.inl (hW 143 _ rfl)) Via.refl F822 E824 (Or.inl (hW 144 _ rfl)) (hW 55 _ rfl) (ty := .long) (by decide) rfl rfl g_a (Safe.exa S821.warm.alike E824 (by decide) (by decide)) rfl rfl (hb hby own_d16_29) (fun T825 h825 S825 J825 W825 F825 => ?_)
  have F840 := Fld.other W825 F826 (Or.inr (slot_ne (Or.inl (hW 63 _ rfl)) (Or.inl (hW 144 _ rfl)) (by decide) (t := (.array .int)) (by decide) (t' := .long) (by decide)))
  have F841 := Fld.other W825 F827 (Or.inr (slot_ne (Or.inl (hW 80 _ rfl)) (Or.inl (hW 144 _ rfl)) (by decide) (t := .int) (by decide) (t' := .long) (by decide)))
  have F842 := Fld.other W825 F828 (Or.inr (slot_ne (Or.inl (hW 67 _ rfl)) (Or.inl (hW 144 _ rfl)) (by decide) (t := (.array (.object "java/lang/String"))) (by decide) (t' := .long) (by decide)))
  have F843 := Fld.other W825 F829 (Or.inr (slot_ne (Or.inl (hW 88 _ rfl)) (Or.inl (hW 144 _ rfl)) (by decide) (t := .int) (by decide) (t' := .long) (by decide)))
  have F844 := Fld.other W825 F830 (Or.inr (slot_ne (Or.inl (hW 69 _ rfl)) (Or.inl (hW 144 _ rfl)) (by decide) (t := (.array .byte)) (by decide) (t' := .long) (by decide)))
  have F845 := Fld.other W825 F831 (Or.inr (slot_ne (Or.inl (hW 122 _ rfl)) (Or.inl (hW 144 _ rfl)) (by decide) (t := .int) (by decide) (t' := .long) (by decide)))
  have F846 := Fld.other W825 F832 (Or.inr (slot_ne (Or.inl (hW 90 _ rfl)) (Or.inl (hW 144 _ rfl)) (by decide) (t := .long) (by decide) (t' := .long) (by decide)))
  have F847 := Fld.other W825 F833 (Or.inr (slot_ne (Or.inl (hW 82 _ rfl)) (Or.inl (hW 144 _ rfl)) (by decide) (t := .int) (by decide) (t' := .long) (by decide)))
  have F848 := Fld.other W825 F834 (Or.inr (slot_ne (Or.inl (hW 146 _ rfl)) (Or.inl (hW 144 _ rfl)) (by decide) (t := .int) (by decide) (t' := .long) (by decide)))
  have F849 := Fld.other W825 F835 (Or.inr (slot_ne (Or.inl (hW 142 _ rfl)) (Or.inl (hW 144 _ rfl)) (by decide) (t := .int) (by decide) (t' := .long) (by decide)))
  have F850 := Fld.other W825 F836 (Or.inr (slot_ne (Or.inl (hW 148 _ rfl)) (Or.inl (hW 144 _ rfl)) (by decide) (t := .int) (by decide) (t' := .long) (by decide)))
  have F851 := Fld.other W825 F837 (Or.inr (slot_ne (Or.inl (hW 163 _ rfl)) (Or.inl (hW 144 _ rfl)) (by decide) (t := .long) (by decide) (t' := .long) (by decide)))
  have F852 := Fld.other W825 F838 (Or.inr (slot_ne (Or.inl (hW 165 _ rfl)) (Or.inl (hW 144 _ rfl)) (by decide) (t := .long) (by decide) (t' := .long) (by decide)))
  have F853 := Fld.other W825 F839 (Or.inr (slot_ne (Or.inl (hW 167 _ rfl)) (Or.inl (hW 144 _ rfl)) (by decide) (t := .long) (by decide) (t' := .long) (by decide)))
  refine hG.st (fun t q => XS.iinc S825.here hx rfl (hb hby own_d16_32) rfl (l' := #[rv a, iv rov, iv 4, iv rbv, iv 3]) rfl (XS.goto S825.here hx rfl (pc0 := 35) (pc' := 6) rfl (hb hby own_d16_35) (by decide) (by decide) (XS.iload S825.here hx rfl (hb hby own_d16_6) rfl (XS.iloadN S825.here hx rfl (hb hby own_d16_8) rfl (XS.icmpNo S825.here hx rfl (hb hby own_d16_9) rfl (tlt (by decide : (3 : Int32) < (4 : Int32))).2.1 (XS.aloadN S825.here hx rfl (hb hby own_d16_12) rfl rfl q)))))) ?_
  show G T825 (mkF m 13 #[rv a, iv rov, iv 4, iv rbv, iv 3] [(.ref a)])
  refine hG.st (fun t q => XS.dup S825.here hx rfl (hb hby own_d16_13) rfl rfl q) ?_
  show G T825 (mkF m 14 #[rv a, iv rov, iv 4, iv rbv, iv 3] [(.ref a), (.ref a)])
  refine Own.Sit.getF hG S825 hx (host := "") (Or.inl (hW 143 _ rfl)) Via.refl F825 rfl rfl (hb hby own_d16_14) (fun T854 S854 => ?_)
  refine hG.st (fun t q => XS.aloadN S854.here hx rfl (hb hby own_d16_17) rfl rfl q) ?_
  show G T854 (mkF m 18 #[rv a, iv rov, iv 4, iv rbv, iv 3] [(.ref a), (.long (((rch + (n_u0.toInt64)) + (n_u1.toInt64)) + (n_u2.toInt64))), (.ref a)])
  refine Own.Sit.getF hG S854 hx (host := "") (Or.inl (hW 66 _ rfl)) Via.refl F842 rfl rfl (hb hby own_d16_18) (fun T855 S855 => ?_)
  refine hG.st (fun t q => XS.iload S855.here hx rfl (hb hby own_d16_21) rfl q) ?_
  show G T855 (mkF m 23 #[rv a, iv rov, iv 4, iv rbv, iv 3] [(.int 3), (.ref st), (.long (((rch + (n_u0.toInt64)) + (n_u1.toInt64)) + (n_u2.toInt64))), (.ref a)])
  have J856 : Own.Stp Z consts_1 vm781 h785 vm821 h825 [a] := Own.Stp.trans J821 J825 (all0) (allS (Or.inl (List.mem_of_getElem? (i := 0) rfl)) all0)
  have V857 := J856.arv V817 (ninS (Ne.symm (Exa.neArv (J819.exa E_a740) V817 (hW 55 _ rfl))) nin0)
  refine Own.Sit.aaload hG S855 hx V857 rfl ⟨by decide, by decide⟩ rfl rfl rfl (hb hby own_d16_23) ?_
  show G T855 (mkF m 24 #[rv a, iv rov, iv 4, iv rbv, iv 3] [u3, (.long (((rch + (n_u0.toInt64)) + (n_u1.toInt64)) + (n_u2.toInt64))), (.ref a)])
  have J858 : Own.Stp Z consts_1 vm0 h0 vm821 h821 [a] := Own.Stp.trans J819 J821 (allS (List.mem_of_getElem? (i := 0) rfl) (all0)) all0
  have J859 : Own.Stp Z consts_1 vm0 h0 vm821 h825 [a] := Own.Stp.trans J858 J825 (allS (List.mem_of_getElem? (i := 0) rfl) (all0)) (allS (Or.inl (List.mem_of_getElem? (i := 0) rfl)) all0)
  have N860 := own_NS.stp N_u3 J859 (allS ba all0)
  refine Own.Sit.callS hG S855 hx hEL (as := [u3]) (hW 91 _ rfl) (hW 92 _ rfl) (hW 56 _ rfl) (hW 93 _ rfl) (by decide) (own_len l Z a0 H u3 n_u3 B h825 S855.old N860) own_pdb70cb2 rfl rfl (hz _ rfl) (rest := [(.long (((rch + (n_u0.toInt64)) + (n_u1.toInt64)) + (n_u2.toInt64))), (.ref a)]) rfl (W := 3) (Own.hw0 rfl rfl) (hb hby own_d16_24) (by decide) (by decide) (by decide) (by decide) (fun v861 vm861 T861 h861 S861 C861 q861 => ?_)
  obtain ⟨K861, rfl⟩ := q861
  have J861 : Own.Stp Z consts_1 vm821 h825 vm861 h861 [] := ⟨K861, C861⟩
  refine hG.st (fun t q => XS.i2l S861.here hx rfl (hb hby own_d16_27) rfl (XS.ladd S861.here hx rfl (hb hby own_d16_28) rfl q)) ?_
  show G T861 (mkF m 29 #[rv a, iv rov, iv 4, iv rbv, iv 3] [(.long ((((rch + (n_u0.toInt64)) + (n_u1.toInt64)) + (n_u2.toInt64)) + (n_u3.toInt64))), (.ref a)])
  have F862 := J861.fld F825 nin0
  have J863 : Own.Stp Z consts_1 vm821 h821 vm861 h861 [a] := Own.Stp.trans J825 J861 (allS (List.mem_of_getElem? (i := 0) rfl) (all0)) all0
  have E864 := J863.exa E824
  have F866 := J861.fld F840 nin0
  have F867 := J861.fld F841 nin0
  have F868 := J861.fld F842 nin0
  have F869 := J861.fld F843 nin0
  have F870 := J861.fld F844 nin0
  have F871 := J861.fld F845 nin0
  have F872 := J861.fld F846 nin0
  have F873 := J861.fld F847 nin0
  have F874 := J861.fld F848 nin0
  have F875 := J861.fld F849 nin0
  have F876 := J861.fld F850 nin0
  have F877 := J861.fld F851 nin0
  have F878 := J861.fld F852 nin0
  have F879 := J861.fld F853 nin0
  refine Own.Sit.putF hG S861 hx (host := "") (Or.inl (hW 143 _ rfl)) Via.refl F862 E864 (Or.inl (hW 144 _ rfl)) (hW 55 _ rfl) (ty := .long) (by decide) rfl rfl g_a (Safe.exa S861.warm.alike E864 (by decide) (by decide)) rfl rfl (hb hby own_d16_29) (fun T865 h865 S865 J865 W865 F865 => ?_)
  have F880 := Fld.other W865 F866 (Or.inr (slot_ne (Or.inl (hW 63 _ rfl)) (Or.inl (hW 144 _ rfl)) (by decide) (t := (.array .int)) (by decide) (t' := .long) (by decide)))
  have F881 := Fld.other W865 F867 (Or.inr (slot_ne (Or.inl (hW 80 _ rfl)) (Or.inl (hW 144 _ rfl)) (by decide) (t := .int) (by decide) (t' := .long) (by decide)))
  have F882 := Fld.other W865 F868 (Or.inr (slot_ne (Or.inl (hW 67 _ rfl)) (Or.inl (hW 144 _ rfl)) (by decide) (t := (.array (.object "java/lang/String"))) (by decide) (t' := .long) (by decide)))
  have F883 := Fld.other W865 F869 (Or.inr (slot_ne (Or.inl (hW 88 _ rfl)) (Or.inl (hW 144 _ rfl)) (by decide) (t := .int) (by decide) (t' := .long) (by decide)))
  have F884 := Fld.other W865 F870 (Or.inr (slot_ne (Or.inl (hW 69 _ rfl)) (Or.inl (hW 144 _ rfl)) (by decide) (t := (.array .byte)) (by decide) (t' := .long) (by decide)))
  have F885 := Fld.other W865 F871 (Or.inr (slot_ne (Or.inl (hW 122 _ rfl)) (Or.inl (hW 144 _ rfl)) (by decide) (t := .int) (by decide) (t' := .long) (by decide)))
  have F886 := Fld.other W865 F872 (Or.inr (slot_ne (Or.inl (hW 90 _ rfl)) (Or.inl (hW 144 _ rfl)) (by decide) (t := .long) (by decide) (t' := .long) (by decide)))
  have F887 := Fld.other W865 F873 (Or.inr (slot_ne (Or.inl (hW 82 _ rfl)) (Or.inl (hW 144 _ rfl)) (by decide) (t := .int) (by decide) (t' := .long) (by decide)))
  have F888 := Fld.other W865 F874 (Or.inr (slot_ne (Or.inl (hW 146 _ rfl)) (Or.inl (hW 144 _ rfl)) (by decide) (t := .int) (by decide) (t' := .long) (by decide)))
  have F889 := Fld.other W865 F875 (Or.inr (slot_ne (Or.inl (hW 142 _ rfl)) (Or.inl (hW 144 _ rfl)) (by decide) (t := .int) (by decide) (t' := .long) (by decide)))
  have F890 := Fld.other W865 F876 (Or.inr (slot_ne (Or.inl (hW 148 _ rfl)) (Or.inl (hW 144 _ rfl)) (by decide) (t := .int) (by decide) (t' := .long) (by decide)))
  have F891 := Fld.other W865 F877 (Or.inr (slot_ne (Or.inl (hW 163 _ rfl)) (Or.inl (hW 144 _ rfl)) (by decide) (t := .long) (by decide) (t' := .long) (by decide)))
  have F892 := Fld.other W865 F878 (Or.inr (slot_ne (Or.inl (hW 165 _ rfl)) (Or.inl (hW 144 _ rfl)) (by decide) (t := .long) (by decide) (t' := .long) (by decide)))
  have F893 := Fld.other W865 F879 (Or.inr (slot_ne (Or.inl (hW 167 _ rfl)) (Or.inl (hW 144 _ rfl)) (by decide) (t := .long) (by decide) (t' := .long) (by decide)))
  refine hG.st (fun t q => XS.iinc S865.here hx rfl (hb hby own_d16_32) rfl (l' := #[rv a, iv rov, iv 4, iv rbv, iv 4]) rfl (XS.goto S865.here hx rfl (pc0 := 35) (pc' := 6) rfl (hb hby own_d16_35) (by decide) (by decide) (XS.iload S865.here hx rfl (hb hby own_d16_6) rfl (XS.iloadN S865.here hx rfl (hb hby own_d16_8) rfl (XS.icmpYes S865.here hx rfl (pc0 := 9) (pc' := 38) rfl (hb hby own_d16_9) rfl (flt (by decide : ¬ ((4 : Int32) < (4 : Int32)))).2.1 (by decide) (by decide) (XS.aloadN S865.here hx rfl (hb hby own_d16_38) rfl rfl q)))))) ?_
  show G T865 (mkF m 39 #[rv a, iv rov, iv 4, iv rbv, iv 4] [(.ref a)])
  refine hG.st (fun t q => XS.iloadN S865.here hx rfl (hb hby own_d16_39) rfl q) ?_
  show G T865 (mkF m 40 #[rv a, iv rov, iv 4, iv rbv, iv 4] [(.int rov), (.ref a)])
  have E894 := J865.exa E864
  refine Own.Sit.putF hG S865 hx (host := "") (Or.inl (hW 145 _ rfl)) Via.refl F888 E894 (Or.inl (hW 146 _ rfl)) (hW 55 _ rfl) (ty := .int) (by decide) rfl rfl g_a (Safe.exa S865.warm.alike E894 (by decide) (by decide)) rfl rfl (hb hby own_d16_40) (fun T895 h895 S895 J895 W895 F895 => ?_)
  have F896 := Fld.other W895 F880 (Or.inr (slot_ne (Or.inl (hW 63 _ rfl)) (Or.inl (hW 146 _ rfl)) (by decide) (t := (.array .int)) (by decide) (t' := .int) (by decide)))
  have F897 := Fld.other W895 F881 (Or.inr (slot_ne (Or.inl (hW 80 _ rfl)) (Or.inl (hW 146 _ rfl)) (by decide) (t := .int) (by decide) (t' := .int) (by decide)))
  have F898 := Fld.other W895 F882 (Or.inr (slot_ne (Or.inl (hW 67 _ rfl)) (Or.inl (hW 146 _ rfl)) (by decide) (t := (.array (.object "java/lang/String"))) (by decide) (t' := .int) (by decide)))
  have F899 := Fld.other W895 F883 (Or.inr (slot_ne (Or.inl (hW 88 _ rfl)) (Or.inl (hW 146 _ rfl)) (by decide) (t := .int) (by decide) (t' := .int) (by decide)))
  have F900 := Fld.other W895 F884 (Or.inr (slot_ne (Or.inl (hW 69 _ rfl)) (Or.inl (hW 146 _ rfl)) (by decide) (t := (.array .byte)) (by decide) (t' := .int) (by decide)))
  have F901 := Fld.other W895 F885 (Or.inr (slot_ne (Or.inl (hW 122 _ rfl)) (Or.inl (hW 146 _ rfl)) (by decide) (t := .int) (by decide) (t' := .int) (by decide)))
  have F902 := Fld.other W895 F886 (Or.inr (slot_ne (Or.inl (hW 90 _ rfl)) (Or.inl (hW 146 _ rfl)) (by decide) (t := .long) (by decide) (t' := .int) (by decide)))
  have F903 := Fld.other W895 F887 (Or.inr (slot_ne (Or.inl (hW 82 _ rfl)) (Or.inl (hW 146 _ rfl)) (by decide) (t := .int) (by decide) (t' := .int) (by decide)))
  have F904 := Fld.other W895 F889 (Or.inr (slot_ne (Or.inl (hW 142 _ rfl)) (Or.inl (hW 146 _ rfl)) (by decide) (t := .int) (by decide) (t' := .int) (by decide)))
  have F905 := Fld.other W895 F890 (Or.inr (slot_ne (Or.inl (hW 148 _ rfl)) (Or.inl (hW 146 _ rfl)) (by decide) (t := .int) (by decide) (t' := .int) (by decide)))
  have F906 := Fld.other W895 F865 (Or.inr (slot_ne (Or.inl (hW 144 _ rfl)) (Or.inl (hW 146 _ rfl)) (by decide) (t := .long) (by decide) (t' := .int) (by decide)))
  have F907 := Fld.other W895 F891 (Or.inr (slot_ne (Or.inl (hW 163 _ rfl)) (Or.inl (hW 146 _ rfl)) (by decide) (t := .long) (by decide) (t' := .int) (by decide)))
  have F908 := Fld.other W895 F892 (Or.inr (slot_ne (Or.inl (hW 165 _ rfl)) (Or.inl (hW 146 _ rfl)) (by decide) (t := .long) (by decide) (t' := .int) (by decide)))
  have F909 := Fld.other W895 F893 (Or.inr (slot_ne (Or.inl (hW 167 _ rfl)) (Or.inl (hW 146 _ rfl)) (by decide) (t := .long) (by decide) (t' := .int) (by decide)))
  refine hG.st (fun t q => XS.aloadN S895.here hx rfl (hb hby own_d16_43) rfl rfl (XS.iloadN S895.here hx rfl (hb hby own_d16_44) rfl q)) ?_
  show G T895 (mkF m 45 #[rv a, iv rov, iv 4, iv rbv, iv 4] [(.int 4), (.ref a)])
  have E910 := J895.exa E894
  refine Own.Sit.putF hG S895 hx (host := "") (Or.inl (hW 141 _ rfl)) Via.refl F904 E910 (Or.inl (hW 142 _ rfl)) (hW 55 _ rfl) (ty := .int) (by decide) rfl rfl g_a (Safe.exa S895.warm.alike E910 (by decide) (by decide)) rfl rfl (hb hby own_d16_45) (fun T911 h911 S911 J911 W911 F911 => ?_)
  have F912 := Fld.other W911 F896 (Or.inr (slot_ne (Or.inl (hW 63 _ rfl)) (Or.inl (hW 142 _ rfl)) (by decide) (t := (.array .int)) (by decide) (t' := .int) (by decide)))
  have F913 := Fld.other W911 F897 (Or.inr (slot_ne (Or.inl (hW 80 _ rfl)) (Or.inl (hW 142 _ rfl)) (by decide) (t := .int) (by decide) (t' := .int) (by decide)))
  have F914 := Fld.other W911 F898 (Or.inr (slot_ne (Or.inl (hW 67 _ rfl)) (Or.inl (hW 142 _ rfl)) (by decide) (t := (.array (.object "java/lang/String"))) (by decide) (t' := .int) (by decide)))
  have F915 := Fld.other W911 F899 (Or.inr (slot_ne (Or.inl (hW 88 _ rfl)) (Or.inl (hW 142 _ rfl)) (by decide) (t := .int) (by decide) (t' := .int) (by decide)))
  have F916 := Fld.other W911 F900 (Or.inr (slot_ne (Or.inl (hW 69 _ rfl)) (Or.inl (hW 142 _ rfl)) (by decide) (t := (.array .byte)) (by decide) (t' := .int) (by decide)))
  have F917 := Fld.other W911 F901 (Or.inr (slot_ne (Or.inl (hW 122 _ rfl)) (Or.inl (hW 142 _ rfl)) (by decide) (t := .int) (by decide) (t' := .int) (by decide)))
  have F918 := Fld.other W911 F902 (Or.inr (slot_ne (Or.inl (hW 90 _ rfl)) (Or.inl (hW 142 _ rfl)) (by decide) (t := .long) (by decide) (t' := .int) (by decide)))
  have F919 := Fld.other W911 F903 (Or.inr (slot_ne (Or.inl (hW 82 _ rfl)) (Or.inl (hW 142 _ rfl)) (by decide) (t := .int) (by decide) (t' := .int) (by decide)))
  have F920 := Fld.other W911 F895 (Or.inr (slot_ne (Or.inl (hW 146 _ rfl)) (Or.inl (hW 142 _ rfl)) (by decide) (t := .int) (by decide) (t' := .int) (by decide)))
  have F921 := Fld.other W911 F905 (Or.inr (slot_ne (Or.inl (hW 148 _ rfl)) (Or.inl (hW 142 _ rfl)) (by decide) (t := .int) (by decide) (t' := .int) (by decide)))
  have F922 := Fld.other W911 F906 (Or.inr (slot_ne (Or.inl (hW 144 _ rfl)) (Or.inl (hW 142 _ rfl)) (by decide) (t := .long) (by decide) (t' := .int) (by decide)))
  have F923 := Fld.other W911 F907 (Or.inr (slot_ne (Or.inl (hW 163 _ rfl)) (Or.inl (hW 142 _ rfl)) (by decide) (t := .long) (by decide) (t' := .int) (by decide)))
  have F924 := Fld.other W911 F908 (Or.inr (slot_ne (Or.inl (hW 165 _ rfl)) (Or.inl (hW 142 _ rfl)) (by decide) (t := .long) (by decide) (t' := .int) (by decide)))
  have F925 := Fld.other W911 F909 (Or.inr (slot_ne (Or.inl (hW 167 _ rfl)) (Or.inl (hW 142 _ rfl)) (by decide) (t := .long) (by decide) (t' := .int) (by decide)))
  refine hG.st (fun t q => XS.aloadN S911.here hx rfl (hb hby own_d16_48) rfl rfl (XS.iloadN S911.here hx rfl (hb hby own_d16_49) rfl q)) ?_
  show G T911 (mkF m 50 #[rv a, iv rov, iv 4, iv rbv, iv 4] [(.int rbv), (.ref a)])
  have E926 := J911.exa E910
  refine Own.Sit.putF hG S911 hx (host := "") (Or.inl (hW 147 _ rfl)) Via.refl F921 E926 (Or.inl (hW 148 _ rfl)) (hW 55 _ rfl) (ty := .int) (by decide) rfl rfl g_a (Safe.exa S911.warm.alike E926 (by decide) (by decide)) rfl rfl (hb hby own_d16_50) (fun T927 h927 S927 J927 W927 F927 => ?_)
  have F928 := Fld.other W927 F912 (Or.inr (slot_ne (Or.inl (hW 63 _ rfl)) (Or.inl (hW 148 _ rfl)) (by decide) (t := (.array .int)) (by decide) (t' := .int) (by decide)))
  have F929 := Fld.other W927 F913 (Or.inr (slot_ne (Or.inl (hW 80 _ rfl)) (Or.inl (hW 148 _ rfl)) (by decide) (t := .int) (by decide) (t' := .int) (by decide)))
  have F930 := Fld.other W927 F914 (Or.inr (slot_ne (Or.inl (hW 67 _ rfl)) (Or.inl (hW 148 _ rfl)) (by decide) (t := (.array (.object "java/lang/String"))) (by decide) (t' := .int) (by decide)))
  have F931 := Fld.other W927 F915 (Or.inr (slot_ne (Or.inl (hW 88 _ rfl)) (Or.inl (hW 148 _ rfl)) (by decide) (t := .int) (by decide) (t' := .int) (by decide)))
  have F932 := Fld.other W927 F916 (Or.inr (slot_ne (Or.inl (hW 69 _ rfl)) (Or.inl (hW 148 _ rfl)) (by decide) (t := (.array .byte)) (by decide) (t' := .int) (by decide)))
  have F933 := Fld.other W927 F917 (Or.inr (slot_ne (Or.inl (hW 122 _ rfl)) (Or.inl (hW 148 _ rfl)) (by decide) (t := .int) (by decide) (t' := .int) (by decide)))
  have F934 := Fld.other W927 F918 (Or.inr (slot_ne (Or.inl (hW 90 _ rfl)) (Or.inl (hW 148 _ rfl)) (by decide) (t := .long) (by decide) (t' := .int) (by decide)))
  have F935 := Fld.other W927 F919 (Or.inr (slot_ne (Or.inl (hW 82 _ rfl)) (Or.inl (hW 148 _ rfl)) (by decide) (t := .int) (by decide) (t' := .int) (by decide)))
  have F936 := Fld.other W927 F920 (Or.inr (slot_ne (Or.inl (hW 146 _ rfl)) (Or.inl (hW 148 _ rfl)) (by decide) (t := .int) (by decide) (t' := .int) (by decide)))
  have F937 := Fld.other W927 F911 (Or.inr (slot_ne (Or.inl (hW 142 _ rfl)) (Or.inl (hW 148 _ rfl)) (by decide) (t := .int) (by decide) (t' := .int) (by decide)))
  have F938 := Fld.other W927 F922 (Or.inr (slot_ne (Or.inl (hW 144 _ rfl)) (Or.inl (hW 148 _ rfl)) (by decide) (t := .long) (by decide) (t' := .int) (by decide)))
  have F939 := Fld.other W927 F923 (Or.inr (slot_ne (Or.inl (hW 163 _ rfl)) (Or.inl (hW 148 _ rfl)) (by decide) (t := .long) (by decide) (t' := .int) (by decide)))
  have F940 := Fld.other W927 F924 (Or.inr (slot_ne (Or.inl (hW 165 _ rfl)) (Or.inl (hW 148 _ rfl)) (by decide) (t := .long) (by decide) (t' := .int) (by decide)))
  have F941 := Fld.other W927 F925 (Or.inr (slot_ne (Or.inl (hW 167 _ rfl)) (Or.inl (hW 148 _ rfl)) (by decide) (t := .long) (by decide) (t' := .int) (by decide)))
  have J942 : Own.Stp Z consts_1 vm0 h0 vm861 h861 [a] := Own.Stp.trans J859 J861 (allS (List.mem_of_getElem? (i := 0) rfl) (all0)) all0
  have J943 : Own.Stp Z consts_1 vm0 h0 vm861 h865 [a] := Own.Stp.trans J942 J865 (allS (List.mem_of_getElem? (i := 0) rfl) (all0)) (allS (Or.inl (List.mem_of_getElem? (i := 0) rfl)) all0)
  have J944 : Own.Stp Z consts_1 vm0 h0 vm861 h895 [a] := Own.Stp.trans J943 J895 (allS (List.mem_of_getElem? (i := 0) rfl) (all0)) (allS (Or.inl (List.mem_of_getElem? (i := 0) rfl)) all0)
  have J945 : Own.Stp Z consts_1 vm0 h0 vm861 h911 [a] := Own.Stp.trans J944 J911 (allS (List.mem_of_getElem? (i := 0) rfl) (all0)) (allS (Or.inl (List.mem_of_getElem? (i := 0) rfl)) all0)
  have J946 : Own.Stp Z consts_1 vm0 h0 vm861 h927 [a] := Own.Stp.trans J945 J927 (allS (List.mem_of_getElem? (i := 0) rfl) (all0)) (allS (Or.inl (List.mem_of_getElem? (i := 0) rfl)) all0)
  have E947 := J927.exa E926
  show G T927 (mkF m 53 #[rv a, iv rov, iv 4, iv rbv, iv 4] [])
  exact Own.Sit.ret0 hR S927 hx hret (hb hby own_d16_53) (by decide) (by decide) ⟨J946.1, rfl, ⟨E947, F928, F929, F930, F931, F932, F933, F934, F935, F936, F937, F927, F938, F939, F940, F941⟩⟩
theorem own_ef_own_mark24 (m : MethodId) (a : Addr) (rov : Int32) (rbv : Int32) : entryFrame m #[(.ref a), (.int rov), (.int 4), (.int rbv)] 5 = mkF m 0 #[rv a, iv rov, iv 4, iv rbv, .unset] [] := by first | (simp [entryFrame, mkF, argsToLocals, Value.category]; done) | rfl
set_option maxRecDepth 65536 in
set_option maxHeartbeats 40000000 in
theorem own_mark24 (l : Launch) (Z : State) (a0 : Array Value) (H : own_Wld Z a0) {cw : List Jvm.Cond} (a : Addr) (rov : Int32) (rbv : Int32) (o : Addr) (oc : Int32) (st : Addr) (sc : Int32) (bt : Addr) (bc : Int32) (ch : Int64) (lst : Int32) (ro : Int32) (rb : Int32) (rch : Int64) (ob : Int64) (sb : Int64) (bb : Int64) (u0 : Value) (u1 : Value) (u2 : Value) (u3 : Value) (n_u0 : Int32) (n_u1 : Int32) (n_u2 : Int32) (n_u3 : Int32) (B : Nat) (h0 : Heap) (O0 : Ext Z.heap h0) (OB : own_Ob Z h0 a o oc st sc bt bc ch lst ro 2 rb rch ob sb bb) {ks : ClassId} (SA : own_SA Z h0 st ks [u0, u1, u2, u3]) (N_u0 : own_NS Z h0 B u0 n_u0) (N_u1 : own_NS Z h0 B u1 n_u1) (N_u2 : own_NS Z h0 B u2 n_u2) (N_u3 : own_NS Z h0 B u3 n_u3) (ba : B ≤ a) (bs : B ≤ st) (g_a : Z.heap.size ≤ a) (g_s : Z.heap.size ≤ st) :
    Own.Con l Z consts_1 (⟨"com/example/scholiast/scholiast/XmlEvents", "markReleased", "(III)V"⟩ : MethodName) prog_53_method_26_code 5 none cw ({ frames := 3, cells := 0, slots := 0, locals := 40 } : Room) #[(.ref a), (.int rov), (.int 4), (.int rbv)] h0 (fun v h => Keep h0 h [a] ∧ v = none ∧ own_Ob Z h a o oc st sc bt bc ch lst rov 4 rbv ((rch + n_u2.toInt64) + n_u3.toInt64) ob sb bb) := by
  have hw := H.1
  have hW := fun (i : Nat) (w : Jvm.Cond) (e : tables_1[i]? = some w) => hw w (List.mem_of_getElem? e)
  have hCm := H.2.1
  have hSi := H.2.2.1
  have hEL := H.2.2.2
  have hWs : ∀ d ∈ StrChars.Road.words, d.before a0 Z = true := fun d hd => hw d (own_wbackV d hd)
  have hWl : ∀ d ∈ StrChars.Road.wordsLen, d.before a0 Z = true := fun d hd => hw d (own_wlenW d hd)
  have hSA : ∀ d ∈ Bundle.stringAtoms, d.before a0 Z = true := fun d hd => hw d (own_wSA d hd)
  refine Own.Con.of own_pnc10fb3 hEL O0 ?_
  intro p e s m below meth c T0 G vm0 hx hby hml hret hnm hG hR S0
  have hz : ∀ L : Array Slot, L.size = 5 → L.size = c.maxLocals := fun L q => q.trans hml.symm
  rw [own_ef_own_mark24]
  show G T0 (mkF m 0 #[rv a, iv rov, iv 4, iv rbv, .unset] [])
  obtain ⟨E_a948, F948_o, F948_oc, F948_st, F948_sc, F948_bt, F948_bc, F948_ch, F948_lst, F948_ro, F948_rs, F948_rb, F948_rch, F948_ob, F948_sb, F948_bb⟩ := id OB
  obtain ⟨As, hOv⟩ := id SA
  refine hG.st (fun t q => XS.aloadN S0.here hx rfl (hb hby own_d16_0) rfl rfl q) ?_
  show G T0 (mkF m 1 #[rv a, iv rov, iv 4, iv rbv, .unset] [(.ref a)])
  refine Own.Sit.getF hG S0 hx (host := "") (Or.inl (hW 141 _ rfl)) Via.refl F948_rs rfl rfl (hb hby own_d16_1) (fun T949 S949 => ?_)
  refine hG.st (fun t q => XS.istore S949.here hx rfl (hb hby own_d16_4) rfl (l' := #[rv a, iv rov, iv 4, iv rbv, iv 2]) rfl (XS.iload S949.here hx rfl (hb hby own_d16_6) rfl (XS.iloadN S949.here hx rfl (hb hby own_d16_8) rfl (XS.icmpNo S949.here hx rfl (hb hby own_d16_9) rfl (tlt (by decide : (2 : Int32) < (4 : Int32))).2.1 (XS.aloadN S949.here hx rfl (hb hby own_d16_12) rfl rfl (XS.dup S949.here hx rfl (hb hby own_d16_13) rfl rfl q)))))) ?_
  show G T949 (mkF m 14 #[rv a, iv rov, iv 4, iv rbv, iv 2] [(.ref a), (.ref a)])
  refine Own.Sit.getF hG S949 hx (host := "") (Or.inl (hW 143 _ rfl)) Via.refl F948_rch rfl rfl (hb hby own_d16_14) (fun T950 S950 => ?_)
  refine hG.st (fun t q => XS.aloadN S950.here hx rfl (hb hby own_d16_17) rfl rfl q) ?_
  show G T950 (mkF m 18 #[rv a, iv rov, iv 4, iv rbv, iv 2] [(.ref a), (.long rch), (.ref a)])
  refine Own.Sit.getF hG S950 hx (host := "") (Or.inl (hW 66 _ rfl)) Via.refl F948_st rfl rfl (hb hby own_d16_18) (fun T951 S951 => ?_)
  refine hG.st (fun t q => XS.iload S951.here hx rfl (hb hby own_d16_21) rfl q) ?_
  show G T951 (mkF m 23 #[rv a, iv rov, iv 4, iv rbv, iv 2] [(.int 2), (.ref st), (.long rch), (.ref a)])
  refine Own.Sit.aaload hG S951 hx As rfl ⟨by decide, by decide⟩ rfl rfl rfl (hb hby own_d16_23) ?_
  show G T951 (mkF m 24 #[rv a, iv rov, iv 4, iv rbv, iv 2] [u2, (.long rch), (.ref a)])
  refine Own.Sit.callS hG S951 hx hEL (as := [u2]) (hW 91 _ rfl) (hW 92 _ rfl) (hW 56 _ rfl) (hW 93 _ rfl) (by decide) (own_len l Z a0 H u2 n_u2 B h0 S951.old N_u2) own_pdb70cb2 rfl rfl (hz _ rfl) (rest := [(.long rch), (.ref a)]) rfl (W := 3) (Own.hw0 rfl rfl) (hb hby own_d16_24) (by decide) (by decide) (by decide) (by decide) (fun v952 vm952 T952 h952 S952 C952 q952 => ?_)
  obtain ⟨K952, rfl⟩ := q952
  have J952 : Own.Stp Z consts_1 vm0 h0 vm952 h952 [] := ⟨K952, C952⟩
  refine hG.st (fun t q => XS.i2l S952.here hx rfl (hb hby own_d16_27) rfl (XS.ladd S952.here hx rfl (hb hby own_d16_28) rfl q)) ?_
  show G T952 (mkF m 29 #[rv a, iv rov, iv 4, iv rbv, iv 2] [(.long (rch + (n_u2.toInt64))), (.ref a)])
  have F953 := J952.fld F948_rch nin0
  have E954 := J952.exa E_a948
  have F956 := J952.fld F948_o nin0
  have F957 := J952.fld F948_oc nin0
  have F958 := J952.fld F948_st nin0
  have F959 := J952.fld F948_sc nin0
  have F960 := J952.fld F948_bt nin0
  have F961 := J952.fld F948_bc nin0
  have F962 := J952.fld F948_ch nin0
  have F963 := J952.fld F948_lst nin0
  have F964 := J952.fld F948_ro nin0
  have F965 := J952.fld F948_rs nin0
  have F966 := J952.fld F948_rb nin0
  have F967 := J952.fld F948_ob nin0
  have F968 := J952.fld F948_sb nin0
  have F969 := J952.fld F948_bb nin0
  refine Own.Sit.putF hG S952 hx (host := "") (Or.inl (hW 143 _ rfl)) Via.refl F953 E954 (Or.inl (hW 144 _ rfl)) (hW 55 _ rfl) (ty := .long) (by decide) rfl rfl g_a (Safe.exa S952.warm.alike E954 (by decide) (by decide)) rfl rfl (hb hby own_d16_29) (fun T955 h955 S955 J955 W955 F955 => ?_)
  have F970 := Fld.other W955 F956 (Or.inr (slot_ne (Or.inl (hW 63 _ rfl)) (Or.inl (hW 144 _ rfl)) (by decide) (t := (.array .int)) (by decide) (t' := .long) (by decide)))
  have F971 := Fld.other W955 F957 (Or.inr (slot_ne (Or.inl (hW 80 _ rfl)) (Or.inl (hW 144 _ rfl)) (by decide) (t := .int) (by decide) (t' := .long) (by decide)))
  have F972 := Fld.other W955 F958 (Or.inr (slot_ne (Or.inl (hW 67 _ rfl)) (Or.inl (hW 144 _ rfl)) (by decide) (t := (.array (.object "java/lang/String"))) (by decide) (t' := .long) (by decide)))
  have F973 := Fld.other W955 F959 (Or.inr (slot_ne (Or.inl (hW 88 _ rfl)) (Or.inl (hW 144 _ rfl)) (by decide) (t := .int) (by decide) (t' := .long) (by decide)))
  have F974 := Fld.other W955 F960 (Or.inr (slot_ne (Or.inl (hW 69 _ rfl)) (Or.inl (hW 144 _ rfl)) (by decide) (t := (.array .byte)) (by decide) (t' := .long) (by decide)))
  have F975 := Fld.other W955 F961 (Or.inr (slot_ne (Or.inl (hW 122 _ rfl)) (Or.inl (hW 144 _ rfl)) (by decide) (t := .int) (by decide) (t' := .long) (by decide)))
  have F976 := Fld.other W955 F962 (Or.inr (slot_ne (Or.inl (hW 90 _ rfl)) (Or.inl (hW 144 _ rfl)) (by decide) (t := .long) (by decide) (t' := .long) (by decide)))
  have F977 := Fld.other W955 F963 (Or.inr (slot_ne (Or.inl (hW 82 _ rfl)) (Or.inl (hW 144 _ rfl)) (by decide) (t := .int) (by decide) (t' := .long) (by decide)))
  have F978 := Fld.other W955 F964 (Or.inr (slot_ne (Or.inl (hW 146 _ rfl)) (Or.inl (hW 144 _ rfl)) (by decide) (t := .int) (by decide) (t' := .long) (by decide)))
  have F979 := Fld.other W955 F965 (Or.inr (slot_ne (Or.inl (hW 142 _ rfl)) (Or.inl (hW 144 _ rfl)) (by decide) (t := .int) (by decide) (t' := .long) (by decide)))
  have F980 := Fld.other W955 F966 (Or.inr (slot_ne (Or.inl (hW 148 _ rfl)) (Or.inl (hW 144 _ rfl)) (by decide) (t := .int) (by decide) (t' := .long) (by decide)))
  have F981 := Fld.other W955 F967 (Or.inr (slot_ne (Or.inl (hW 163 _ rfl)) (Or.inl (hW 144 _ rfl)) (by decide) (t := .long) (by decide) (t' := .long) (by decide)))
  have F982 := Fld.other W955 F968 (Or.inr (slot_ne (Or.inl (hW 165 _ rfl)) (Or.inl (hW 144 _ rfl)) (by decide) (t := .long) (by decide) (t' := .long) (by decide)))
  have F983 := Fld.other W955 F969 (Or.inr (slot_ne (Or.inl (hW 167 _ rfl)) (Or.inl (hW 144 _ rfl)) (by decide) (t := .long) (by decide) (t' := .long) (by decide)))
  refine hG.st (fun t q => XS.iinc S955.here hx rfl (hb hby own_d16_32) rfl (l' := #[rv a, iv rov, iv 4, iv rbv, iv 3]) rfl (XS.goto S955.here hx rfl (pc0 := 35) (pc' := 6) rfl (hb hby own_d16_35) (by decide) (by decide) (XS.iload S955.here hx rfl (hb hby own_d16_6) rfl (XS.iloadN S955.here hx rfl (hb hby own_d16_8) rfl (XS.icmpNo S955.here hx rfl (hb hby own_d16_9) rfl (tlt (by decide : (3 : Int32) < (4 : Int32))).2.1 (XS.aloadN S955.here hx rfl (hb hby own_d16_12) rfl rfl q)))))) ?_
  show G T955 (mkF m 13 #[rv a, iv rov, iv 4, iv rbv, iv 3] [(.ref a)])
  refine hG.st (fun t q => XS.dup S955.here hx rfl (hb hby own_d16_13) rfl rfl q) ?_
  show G T955 (mkF m 14 #[rv a, iv rov, iv 4, iv rbv, iv 3] [(.ref a), (.ref a)])
  refine Own.Sit.getF hG S955 hx (host := "") (Or.inl (hW 143 _ rfl)) Via.refl F955 rfl rfl (hb hby own_d16_14) (fun T984 S984 => ?_)
  refine hG.st (fun t q => XS.aloadN S984.here hx rfl (hb hby own_d16_17) rfl rfl q) ?_
  show G T984 (mkF m 18 #[rv a, iv rov, iv 4, iv rbv, iv 3] [(.ref a), (.long (rch + (n_u2.toInt64))), (.ref a)])
  refine Own.Sit.getF hG S984 hx (host := "") (Or.inl (hW 66 _ rfl)) Via.refl F972 rfl rfl (hb hby own_d16_18) (fun T985 S985 => ?_)
  refine hG.st (fun t q => XS.iload S985.here hx rfl (hb hby own_d16_21) rfl q) ?_
  show G T985 (mkF m 23 #[rv a, iv rov, iv 4, iv rbv, iv 3] [(.int 3), (.ref st), (.long (rch + (n_u2.toInt64))), (.ref a)])
  have J986 : Own.Stp Z consts_1 vm0 h0 vm952 h955 [a] := Own.Stp.trans J952 J955 (all0) (allS (Or.inl (List.mem_of_getElem? (i := 0) rfl)) all0)
  have V987 := J986.arv As (ninS (Ne.symm (Exa.neArv E_a948 As (hW 55 _ rfl))) nin0)
  refine Own.Sit.aaload hG S985 hx V987 rfl ⟨by decide, by decide⟩ rfl rfl rfl (hb hby own_d16_23) ?_
  show G T985 (mkF m 24 #[rv a, iv rov, iv 4, iv rbv, iv 3] [u3, (.long (rch + (n_u2.toInt64))), (.ref a)])
  have N988 := own_NS.stp N_u3 J986 (allS ba all0)
  refine Own.Sit.callS hG S985 hx hEL (as := [u3]) (hW 91 _ rfl) (hW 92 _ rfl) (hW 56 _ rfl) (hW 93 _ rfl) (by decide) (own_len l Z a0 H u3 n_u3 B h955 S985.old N988) own_pdb70cb2 rfl rfl (hz _ rfl) (rest := [(.long (rch + (n_u2.toInt64))), (.ref a)]) rfl (W := 3) (Own.hw0 rfl rfl) (hb hby own_d16_24) (by decide) (by decide) (by decide) (by decide) (fun v989 vm989 T989 h989 S989 C989 q989 => ?_)
  obtain ⟨K989, rfl⟩ := q989
  have J989 : Own.Stp Z consts_1 vm952 h955 vm989 h989 [] := ⟨K989, C989⟩
  refine hG.st (fun t q => XS.i2l S989.here hx rfl (hb hby own_d16_27) rfl (XS.ladd S989.here hx rfl (hb hby own_d16_28) rfl q)) ?_
  show G T989 (mkF m 29 #[rv a, iv rov, iv 4, iv rbv, iv 3] [(.long ((rch + (n_u2.toInt64)) + (n_u3.toInt64))), (.ref a)])
  have F990 := J989.fld F955 nin0
  have J991 : Own.Stp Z consts_1 vm952 h952 vm989 h989 [a] := Own.Stp.trans J955 J989 (allS (List.mem_of_getElem? (i := 0) rfl) (all0)) all0
  have E992 := J991.exa E954
  have F994 := J989.fld F970 nin0
  have F995 := J989.fld F971 nin0
  have F996 := J989.fld F972 nin0
  have F997 := J989.fld F973 nin0
  have F998 := J989.fld F974 nin0
  have F999 := J989.fld F975 nin0
  have F1000 := J989.fld F976 nin0
  have F1001 := J989.fld F977 nin0
  have F1002 := J989.fld F978 nin0
  have F1003 := J989.fld F979 nin0
  have F1004 := J989.fld F980 nin0
  have F1005 := J989.fld F981 nin0
  have F1006 := J989.fld F982 nin0
  have F1007 := J989.fld F983 nin0
  refine Own.Sit.putF hG S989 hx (host := "") (Or.inl (hW 143 _ rfl)) Via.refl F990 E992 (Or.inl (hW 144 _ rfl)) (hW 55 _ rfl) (ty := .long) (by decide) rfl rfl g_a (Safe.exa S989.warm.alike E992 (by decide) (by decide)) rfl rfl (hb hby own_d16_29) (fun T993 h993 S993 J993 W993 F993 => ?_)
  have F1008 := Fld.other W993 F994 (Or.inr (slot_ne (Or.inl (hW 63 _ rfl)) (Or.inl (hW 144 _ rfl)) (by decide) (t := (.array .int)) (by decide) (t' := .long) (by decide)))
  have F1009 := Fld.other W993 F995 (Or.inr (slot_ne (Or.inl (hW 80 _ rfl)) (Or.inl (hW 144 _ rfl)) (by decide) (t := .int) (by decide) (t' := .long) (by decide)))
  have F1010 := Fld.other W993 F996 (Or.inr (slot_ne (Or.inl (hW 67 _ rfl)) (Or.inl (hW 144 _ rfl)) (by decide) (t := (.array (.object "java/lang/String"))) (by decide) (t' := .long) (by decide)))
  have F1011 := Fld.other W993 F997 (Or.inr (slot_ne (Or.inl (hW 88 _ rfl)) (Or.inl (hW 144 _ rfl)) (by decide) (t := .int) (by decide) (t' := .long) (by decide)))
  have F1012 := Fld.other W993 F998 (Or.inr (slot_ne (Or.inl (hW 69 _ rfl)) (Or.inl (hW 144 _ rfl)) (by decide) (t := (.array .byte)) (by decide) (t' := .long) (by decide)))
  have F1013 := Fld.other W993 F999 (Or.inr (slot_ne (Or.inl (hW 122 _ rfl)) (Or.inl (hW 144 _ rfl)) (by decide) (t := .int) (by decide) (t' := .long) (by decide)))
  have F1014 := Fld.other W993 F1000 (Or.inr (slot_ne (Or.inl (hW 90 _ rfl)) (Or.inl (hW 144 _ rfl)) (by decide) (t := .long) (by decide) (t' := .long) (by decide)))
  have F1015 := Fld.other W993 F1001 (Or.inr (slot_ne (Or.inl (hW 82 _ rfl)) (Or.inl (hW 144 _ rfl)) (by decide) (t := .int) (by decide) (t' := .long) (by decide)))
  have F1016 := Fld.other W993 F1002 (Or.inr (slot_ne (Or.inl (hW 146 _ rfl)) (Or.inl (hW 144 _ rfl)) (by decide) (t := .int) (by decide) (t' := .long) (by decide)))
  have F1017 := Fld.other W993 F1003 (Or.inr (slot_ne (Or.inl (hW 142 _ rfl)) (Or.inl (hW 144 _ rfl)) (by decide) (t := .int) (by decide) (t' := .long) (by decide)))
  have F1018 := Fld.other W993 F1004 (Or.inr (slot_ne (Or.inl (hW 148 _ rfl)) (Or.inl (hW 144 _ rfl)) (by decide) (t := .int) (by decide) (t' := .long) (by decide)))
  have F1019 := Fld.other W993 F1005 (Or.inr (slot_ne (Or.inl (hW 163 _ rfl)) (Or.inl (hW 144 _ rfl)) (by decide) (t := .long) (by decide) (t' := .long) (by decide)))
  have F1020 := Fld.other W993 F1006 (Or.inr (slot_ne (Or.inl (hW 165 _ rfl)) (Or.inl (hW 144 _ rfl)) (by decide) (t := .long) (by decide) (t' := .long) (by decide)))
  have F1021 := Fld.other W993 F1007 (Or.inr (slot_ne (Or.inl (hW 167 _ rfl)) (Or.inl (hW 144 _ rfl)) (by decide) (t := .long) (by decide) (t' := .long) (by decide)))
  refine hG.st (fun t q => XS.iinc S993.here hx rfl (hb hby own_d16_32) rfl (l' := #[rv a, iv rov, iv 4, iv rbv, iv 4]) rfl (XS.goto S993.here hx rfl (pc0 := 35) (pc' := 6) rfl (hb hby own_d16_35) (by decide) (by decide) (XS.iload S993.here hx rfl (hb hby own_d16_6) rfl (XS.iloadN S993.here hx rfl (hb hby own_d16_8) rfl (XS.icmpYes S993.here hx rfl (pc0 := 9) (pc' := 38) rfl (hb hby own_d16_9) rfl (flt (by decide : ¬ ((4 : Int32) < (4 : Int32)))).2.1 (by decide) (by decide) (XS.aloadN S993.here hx rfl (hb hby own_d16_38) rfl rfl q)))))) ?_
  show G T993 (mkF m 39 #[rv a, iv rov, iv 4, iv rbv, iv 4] [(.ref a)])
  refine hG.st (fun t q => XS.iloadN S993.here hx rfl (hb hby own_d16_39) rfl q) ?_
  show G T993 (mkF m 40 #[rv a, iv rov, iv 4, iv rbv, iv 4] [(.int rov), (.ref a)])
  have E1022 := J993.exa E992
  refine Own.Sit.putF hG S993 hx (host := "") (Or.inl (hW 145 _ rfl)) Via.refl F1016 E1022 (Or.inl (hW 146 _ rfl)) (hW 55 _ rfl) (ty := .int) (by decide) rfl rfl g_a (Safe.exa S993.warm.alike E1022 (by decide) (by decide)) rfl rfl (hb hby own_d16_40) (fun T1023 h1023 S1023 J1023 W1023 F1023 => ?_)
  have F1024 := Fld.other W1023 F1008 (Or.inr (slot_ne (Or.inl (hW 63 _ rfl)) (Or.inl (hW 146 _ rfl)) (by decide) (t := (.array .int)) (by decide) (t' := .int) (by decide)))
  have F1025 := Fld.other W1023 F1009 (Or.inr (slot_ne (Or.inl (hW 80 _ rfl)) (Or.inl (hW 146 _ rfl)) (by decide) (t := .int) (by decide) (t' := .int) (by decide)))
  have F1026 := Fld.other W1023 F1010 (Or.inr (slot_ne (Or.inl (hW 67 _ rfl)) (Or.inl (hW 146 _ rfl)) (by decide) (t := (.array (.object "java/lang/String"))) (by decide) (t' := .int) (by decide)))
  have F1027 := Fld.other W1023 F1011 (Or.inr (slot_ne (Or.inl (hW 88 _ rfl)) (Or.inl (hW 146 _ rfl)) (by decide) (t := .int) (by decide) (t' := .int) (by decide)))
  have F1028 := Fld.other W1023 F1012 (Or.inr (slot_ne (Or.inl (hW 69 _ rfl)) (Or.inl (hW 146 _ rfl)) (by decide) (t := (.array .byte)) (by decide) (t' := .int) (by decide)))
  have F1029 := Fld.other W1023 F1013 (Or.inr (slot_ne (Or.inl (hW 122 _ rfl)) (Or.inl (hW 146 _ rfl)) (by decide) (t := .int) (by decide) (t' := .int) (by decide)))
  have F1030 := Fld.other W1023 F1014 (Or.inr (slot_ne (Or.inl (hW 90 _ rfl)) (Or.inl (hW 146 _ rfl)) (by decide) (t := .long) (by decide) (t' := .int) (by decide)))
  have F1031 := Fld.other W1023 F1015 (Or.inr (slot_ne (Or.inl (hW 82 _ rfl)) (Or.inl (hW 146 _ rfl)) (by decide) (t := .int) (by decide) (t' := .int) (by decide)))
  have F1032 := Fld.other W1023 F1017 (Or.inr (slot_ne (Or.inl (hW 142 _ rfl)) (Or.inl (hW 146 _ rfl)) (by decide) (t := .int) (by decide) (t' := .int) (by decide)))
  have F1033 := Fld.other W1023 F1018 (Or.inr (slot_ne (Or.inl (hW 148 _ rfl)) (Or.inl (hW 146 _ rfl)) (by decide) (t := .int) (by decide) (t' := .int) (by decide)))
  have F1034 := Fld.other W1023 F993 (Or.inr (slot_ne (Or.inl (hW 144 _ rfl)) (Or.inl (hW 146 _ rfl)) (by decide) (t := .long) (by decide) (t' := .int) (by decide)))
  have F1035 := Fld.other W1023 F1019 (Or.inr (slot_ne (Or.inl (hW 163 _ rfl)) (Or.inl (hW 146 _ rfl)) (by decide) (t := .long) (by decide) (t' := .int) (by decide)))
  have F1036 := Fld.other W1023 F1020 (Or.inr (slot_ne (Or.inl (hW 165 _ rfl)) (Or.inl (hW 146 _ rfl)) (by decide) (t := .long) (by decide) (t' := .int) (by decide)))
  have F1037 := Fld.other W1023 F1021 (Or.inr (slot_ne (Or.inl (hW 167 _ rfl)) (Or.inl (hW 146 _ rfl)) (by decide) (t := .long) (by decide) (t' := .int) (by decide)))
  refine hG.st (fun t q => XS.aloadN S1023.here hx rfl (hb hby own_d16_43) rfl rfl (XS.iloadN S1023.here hx rfl (hb hby own_d16_44) rfl q)) ?_
  show G T1023 (mkF m 45 #[rv a, iv rov, iv 4, iv rbv, iv 4] [(.int 4), (.ref a)])
  have E1038 := J1023.exa E1022
  refine Own.Sit.putF hG S1023 hx (host := "") (Or.inl (hW 141 _ rfl)) Via.refl F1032 E1038 (Or.inl (hW 142 _ rfl)) (hW 55 _ rfl) (ty := .int) (by decide) rfl rfl g_a (Safe.exa S1023.warm.alike E1038 (by decide) (by decide)) rfl rfl (hb hby own_d16_45) (fun T1039 h1039 S1039 J1039 W1039 F1039 => ?_)
  have F1040 := Fld.other W1039 F1024 (Or.inr (slot_ne (Or.inl (hW 63 _ rfl)) (Or.inl (hW 142 _ rfl)) (by decide) (t := (.array .int)) (by decide) (t' := .int) (by decide)))
  have F1041 := Fld.other W1039 F1025 (Or.inr (slot_ne (Or.inl (hW 80 _ rfl)) (Or.inl (hW 142 _ rfl)) (by decide) (t := .int) (by decide) (t' := .int) (by decide)))
  have F1042 := Fld.other W1039 F1026 (Or.inr (slot_ne (Or.inl (hW 67 _ rfl)) (Or.inl (hW 142 _ rfl)) (by decide) (t := (.array (.object "java/lang/String"))) (by decide) (t' := .int) (by decide)))
  have F1043 := Fld.other W1039 F1027 (Or.inr (slot_ne (Or.inl (hW 88 _ rfl)) (Or.inl (hW 142 _ rfl)) (by decide) (t := .int) (by decide) (t' := .int) (by decide)))
  have F1044 := Fld.other W1039 F1028 (Or.inr (slot_ne (Or.inl (hW 69 _ rfl)) (Or.inl (hW 142 _ rfl)) (by decide) (t := (.array .byte)) (by decide) (t' := .int) (by decide)))
  have F1045 := Fld.other W1039 F1029 (Or.inr (slot_ne (Or.inl (hW 122 _ rfl)) (Or.inl (hW 142 _ rfl)) (by decide) (t := .int) (by decide) (t' := .int) (by decide)))
  have F1046 := Fld.other W1039 F1030 (Or.inr (slot_ne (Or.inl (hW 90 _ rfl)) (Or.inl (hW 142 _ rfl)) (by decide) (t := .long) (by decide) (t' := .int) (by decide)))
  have F1047 := Fld.other W1039 F1031 (Or.inr (slot_ne (Or.inl (hW 82 _ rfl)) (Or.inl (hW 142 _ rfl)) (by decide) (t := .int) (by decide) (t' := .int) (by decide)))
  have F1048 := Fld.other W1039 F1023 (Or.inr (slot_ne (Or.inl (hW 146 _ rfl)) (Or.inl (hW 142 _ rfl)) (by decide) (t := .int) (by decide) (t' := .int) (by decide)))
  have F1049 := Fld.other W1039 F1033 (Or.inr (slot_ne (Or.inl (hW 148 _ rfl)) (Or.inl (hW 142 _ rfl)) (by decide) (t := .int) (by decide) (t' := .int) (by decide)))
  have F1050 := Fld.other W1039 F1034 (Or.inr (slot_ne (Or.inl (hW 144 _ rfl)) (Or.inl (hW 142 _ rfl)) (by decide) (t := .long) (by decide) (t' := .int) (by decide)))
  have F1051 := Fld.other W1039 F1035 (Or.inr (slot_ne (Or.inl (hW 163 _ rfl)) (Or.inl (hW 142 _ rfl)) (by decide) (t := .long) (by decide) (t' := .int) (by decide)))
  have F1052 := Fld.other W1039 F1036 (Or.inr (slot_ne (Or.inl (hW 165 _ rfl)) (Or.inl (hW 142 _ rfl)) (by decide) (t := .long) (by decide) (t' := .int) (by decide)))
  have F1053 := Fld.other W1039 F1037 (Or.inr (slot_ne (Or.inl (hW 167 _ rfl)) (Or.inl (hW 142 _ rfl)) (by decide) (t := .long) (by decide) (t' := .int) (by decide)))
  refine hG.st (fun t q => XS.aloadN S1039.here hx rfl (hb hby own_d16_48) rfl rfl (XS.iloadN S1039.here hx rfl (hb hby own_d16_49) rfl q)) ?_
  show G T1039 (mkF m 50 #[rv a, iv rov, iv 4, iv rbv, iv 4] [(.int rbv), (.ref a)])
  have E1054 := J1039.exa E1038
  refine Own.Sit.putF hG S1039 hx (host := "") (Or.inl (hW 147 _ rfl)) Via.refl F1049 E1054 (Or.inl (hW 148 _ rfl)) (hW 55 _ rfl) (ty := .int) (by decide) rfl rfl g_a (Safe.exa S1039.warm.alike E1054 (by decide) (by decide)) rfl rfl (hb hby own_d16_50) (fun T1055 h1055 S1055 J1055 W1055 F1055 => ?_)
  have F1056 := Fld.other W1055 F1040 (Or.inr (slot_ne (Or.inl (hW 63 _ rfl)) (Or.inl (hW 148 _ rfl)) (by decide) (t := (.array .int)) (by decide) (t' := .int) (by decide)))
  have F1057 := Fld.other W1055 F1041 (Or.inr (slot_ne (Or.inl (hW 80 _ rfl)) (Or.inl (hW 148 _ rfl)) (by decide) (t := .int) (by decide) (t' := .int) (by decide)))
  have F1058 := Fld.other W1055 F1042 (Or.inr (slot_ne (Or.inl (hW 67 _ rfl)) (Or.inl (hW 148 _ rfl)) (by decide) (t := (.array (.object "java/lang/String"))) (by decide) (t' := .int) (by decide)))
  have F1059 := Fld.other W1055 F1043 (Or.inr (slot_ne (Or.inl (hW 88 _ rfl)) (Or.inl (hW 148 _ rfl)) (by decide) (t := .int) (by decide) (t' := .int) (by decide)))
  have F1060 := Fld.other W1055 F1044 (Or.inr (slot_ne (Or.inl (hW 69 _ rfl)) (Or.inl (hW 148 _ rfl)) (by decide) (t := (.array .byte)) (by decide) (t' := .int) (by decide)))
  have F1061 := Fld.other W1055 F1045 (Or.inr (slot_ne (Or.inl (hW 122 _ rfl)) (Or.inl (hW 148 _ rfl)) (by decide) (t := .int) (by decide) (t' := .int) (by decide)))
  have F1062 := Fld.other W1055 F1046 (Or.inr (slot_ne (Or.inl (hW 90 _ rfl)) (Or.inl (hW 148 _ rfl)) (by decide) (t := .long) (by decide) (t' := .int) (by decide)))
  have F1063 := Fld.other W1055 F1047 (Or.inr (slot_ne (Or.inl (hW 82 _ rfl)) (Or.inl (hW 148 _ rfl)) (by decide) (t := .int) (by decide) (t' := .int) (by decide)))
  have F1064 := Fld.other W1055 F1048 (Or.inr (slot_ne (Or.inl (hW 146 _ rfl)) (Or.inl (hW 148 _ rfl)) (by decide) (t := .int) (by decide) (t' := .int) (by decide)))
  have F1065 := Fld.other W1055 F1039 (Or.inr (slot_ne (Or.inl (hW 142 _ rfl)) (Or.inl (hW 148 _ rfl)) (by decide) (t := .int) (by decide) (t' := .int) (by decide)))
  have F1066 := Fld.other W1055 F1050 (Or.inr (slot_ne (Or.inl (hW 144 _ rfl)) (Or.inl (hW 148 _ rfl)) (by decide) (t := .long) (by decide) (t' := .int) (by decide)))
  have F1067 := Fld.other W1055 F1051 (Or.inr (slot_ne (Or.inl (hW 163 _ rfl)) (Or.inl (hW 148 _ rfl)) (by decide) (t := .long) (by decide) (t' := .int) (by decide)))
  have F1068 := Fld.other W1055 F1052 (Or.inr (slot_ne (Or.inl (hW 165 _ rfl)) (Or.inl (hW 148 _ rfl)) (by decide) (t := .long) (by decide) (t' := .int) (by decide)))
  have F1069 := Fld.other W1055 F1053 (Or.inr (slot_ne (Or.inl (hW 167 _ rfl)) (Or.inl (hW 148 _ rfl)) (by decide) (t := .long) (by decide) (t' := .int) (by decide)))
  have J1070 : Own.Stp Z consts_1 vm0 h0 vm989 h989 [a] := Own.Stp.trans J986 J989 (allS (List.mem_of_getElem? (i := 0) rfl) (all0)) all0
  have J1071 : Own.Stp Z consts_1 vm0 h0 vm989 h993 [a] := Own.Stp.trans J1070 J993 (allS (List.mem_of_getElem? (i := 0) rfl) (all0)) (allS (Or.inl (List.mem_of_getElem? (i := 0) rfl)) all0)
  have J1072 : Own.Stp Z consts_1 vm0 h0 vm989 h1023 [a] := Own.Stp.trans J1071 J1023 (allS (List.mem_of_getElem? (i := 0) rfl) (all0)) (allS (Or.inl (List.mem_of_getElem? (i := 0) rfl)) all0)
  have J1073 : Own.Stp Z consts_1 vm0 h0 vm989 h1039 [a] := Own.Stp.trans J1072 J1039 (allS (List.mem_of_getElem? (i := 0) rfl) (all0)) (allS (Or.inl (List.mem_of_getElem? (i := 0) rfl)) all0)
  have J1074 : Own.Stp Z consts_1 vm0 h0 vm989 h1055 [a] := Own.Stp.trans J1073 J1055 (allS (List.mem_of_getElem? (i := 0) rfl) (all0)) (allS (Or.inl (List.mem_of_getElem? (i := 0) rfl)) all0)
  have E1075 := J1055.exa E1054
  show G T1055 (mkF m 53 #[rv a, iv rov, iv 4, iv rbv, iv 4] [])
  exact Own.Sit.ret0 hR S1055 hx hret (hb hby own_d16_53) (by decide) (by decide) ⟨J1074.1, rfl, ⟨E1075, F1056, F1057, F1058, F1059, F1060, F1061, F1062, F1063, F1064, F1065, F1055, F1066, F1067, F1068, F1069⟩⟩
theorem own_ef_own_mark44 (m : MethodId) (a : Addr) (rov : Int32) (rbv : Int32) : entryFrame m #[(.ref a), (.int rov), (.int 4), (.int rbv)] 5 = mkF m 0 #[rv a, iv rov, iv 4, iv rbv, .unset] [] := by first | (simp [entryFrame, mkF, argsToLocals, Value.category]; done) | rfl
set_option maxRecDepth 65536 in
set_option maxHeartbeats 40000000 in
theorem own_mark44 (l : Launch) (Z : State) (a0 : Array Value) (H : own_Wld Z a0) {cw : List Jvm.Cond} (a : Addr) (rov : Int32) (rbv : Int32) (o : Addr) (oc : Int32) (st : Addr) (sc : Int32) (bt : Addr) (bc : Int32) (ch : Int64) (lst : Int32) (ro : Int32) (rb : Int32) (rch : Int64) (ob : Int64) (sb : Int64) (bb : Int64) (u0 : Value) (u1 : Value) (u2 : Value) (u3 : Value) (n_u0 : Int32) (n_u1 : Int32) (n_u2 : Int32) (n_u3 : Int32) (B : Nat) (h0 : Heap) (O0 : Ext Z.heap h0) (OB : own_Ob Z h0 a o oc st sc bt bc ch lst ro 4 rb rch ob sb bb) {ks : ClassId} (SA : own_SA Z h0 st ks [u0, u1, u2, u3]) (N_u0 : own_NS Z h0 B u0 n_u0) (N_u1 : own_NS Z h0 B u1 n_u1) (N_u2 : own_NS Z h0 B u2 n_u2) (N_u3 : own_NS Z h0 B u3 n_u3) (ba : B ≤ a) (bs : B ≤ st) (g_a : Z.heap.size ≤ a) (g_s : Z.heap.size ≤ st) :
    Own.Con l Z consts_1 (⟨"com/example/scholiast/scholiast/XmlEvents", "markReleased", "(III)V"⟩ : MethodName) prog_53_method_26_code 5 none cw ({ frames := 0, cells := 0, slots := 0, locals := 0 } : Room) #[(.ref a), (.int rov), (.int 4), (.int rbv)] h0 (fun v h => Keep h0 h [a] ∧ v = none ∧ own_Ob Z h a o oc st sc bt bc ch lst rov 4 rbv rch ob sb bb) := by
  have hw := H.1
  have hW := fun (i : Nat) (w : Jvm.Cond) (e : tables_1[i]? = some w) => hw w (List.mem_of_getElem? e)
  have hCm := H.2.1
  have hSi := H.2.2.1
  have hEL := H.2.2.2
  have hWs : ∀ d ∈ StrChars.Road.words, d.before a0 Z = true := fun d hd => hw d (own_wbackV d hd)
  have hWl : ∀ d ∈ StrChars.Road.wordsLen, d.before a0 Z = true := fun d hd => hw d (own_wlenW d hd)
  have hSA : ∀ d ∈ Bundle.stringAtoms, d.before a0 Z = true := fun d hd => hw d (own_wSA d hd)
  refine Own.Con.of own_pnc10fb3 hEL O0 ?_
  intro p e s m below meth c T0 G vm0 hx hby hml hret hnm hG hR S0
  have hz : ∀ L : Array Slot, L.size = 5 → L.size = c.maxLocals := fun L q => q.trans hml.symm
  rw [own_ef_own_mark44]
  show G T0 (mkF m 0 #[rv a, iv rov, iv 4, iv rbv, .unset] [])
  obtain ⟨E_a1076, F1076_o, F1076_oc, F1076_st, F1076_sc, F1076_bt, F1076_bc, F1076_ch, F1076_lst, F1076_ro, F1076_rs, F1076_rb, F1076_rch, F1076_ob, F1076_sb, F1076_bb⟩ := id OB
  obtain ⟨As, hOv⟩ := id SA
  refine hG.st (fun t q => XS.aloadN S0.here hx rfl (hb hby own_d16_0) rfl rfl q) ?_
  show G T0 (mkF m 1 #[rv a, iv rov, iv 4, iv rbv, .unset] [(.ref a)])
  refine Own.Sit.getF hG S0 hx (host := "") (Or.inl (hW 141 _ rfl)) Via.refl F1076_rs rfl rfl (hb hby own_d16_1) (fun T1077 S1077 => ?_)
  refine hG.st (fun t q => XS.istore S1077.here hx rfl (hb hby own_d16_4) rfl (l' := #[rv a, iv rov, iv 4, iv rbv, iv 4]) rfl (XS.iload S1077.here hx rfl (hb hby own_d16_6) rfl (XS.iloadN S1077.here hx rfl (hb hby own_d16_8) rfl (XS.icmpYes S1077.here hx rfl (pc0 := 9) (pc' := 38) rfl (hb hby own_d16_9) rfl (flt (by decide : ¬ ((4 : Int32) < (4 : Int32)))).2.1 (by decide) (by decide) (XS.aloadN S1077.here hx rfl (hb hby own_d16_38) rfl rfl (XS.iloadN S1077.here hx rfl (hb hby own_d16_39) rfl q)))))) ?_
  show G T1077 (mkF m 40 #[rv a, iv rov, iv 4, iv rbv, iv 4] [(.int rov), (.ref a)])
  refine Own.Sit.putF hG S1077 hx (host := "") (Or.inl (hW 145 _ rfl)) Via.refl F1076_ro E_a1076 (Or.inl (hW 146 _ rfl)) (hW 55 _ rfl) (ty := .int) (by decide) rfl rfl g_a (Safe.exa S1077.warm.alike E_a1076 (by decide) (by decide)) rfl rfl (hb hby own_d16_40) (fun T1078 h1078 S1078 J1078 W1078 F1078 => ?_)
  have F1079 := Fld.other W1078 F1076_o (Or.inr (slot_ne (Or.inl (hW 63 _ rfl)) (Or.inl (hW 146 _ rfl)) (by decide) (t := (.array .int)) (by decide) (t' := .int) (by decide)))
  have F1080 := Fld.other W1078 F1076_oc (Or.inr (slot_ne (Or.inl (hW 80 _ rfl)) (Or.inl (hW 146 _ rfl)) (by decide) (t := .int) (by decide) (t' := .int) (by decide)))
  have F1081 := Fld.other W1078 F1076_st (Or.inr (slot_ne (Or.inl (hW 67 _ rfl)) (Or.inl (hW 146 _ rfl)) (by decide) (t := (.array (.object "java/lang/String"))) (by decide) (t' := .int) (by decide)))
  have F1082 := Fld.other W1078 F1076_sc (Or.inr (slot_ne (Or.inl (hW 88 _ rfl)) (Or.inl (hW 146 _ rfl)) (by decide) (t := .int) (by decide) (t' := .int) (by decide)))
  have F1083 := Fld.other W1078 F1076_bt (Or.inr (slot_ne (Or.inl (hW 69 _ rfl)) (Or.inl (hW 146 _ rfl)) (by decide) (t := (.array .byte)) (by decide) (t' := .int) (by decide)))
  have F1084 := Fld.other W1078 F1076_bc (Or.inr (slot_ne (Or.inl (hW 122 _ rfl)) (Or.inl (hW 146 _ rfl)) (by decide) (t := .int) (by decide) (t' := .int) (by decide)))
  have F1085 := Fld.other W1078 F1076_ch (Or.inr (slot_ne (Or.inl (hW 90 _ rfl)) (Or.inl (hW 146 _ rfl)) (by decide) (t := .long) (by decide) (t' := .int) (by decide)))
  have F1086 := Fld.other W1078 F1076_lst (Or.inr (slot_ne (Or.inl (hW 82 _ rfl)) (Or.inl (hW 146 _ rfl)) (by decide) (t := .int) (by decide) (t' := .int) (by decide)))
  have F1087 := Fld.other W1078 F1076_rs (Or.inr (slot_ne (Or.inl (hW 142 _ rfl)) (Or.inl (hW 146 _ rfl)) (by decide) (t := .int) (by decide) (t' := .int) (by decide)))
  have F1088 := Fld.other W1078 F1076_rb (Or.inr (slot_ne (Or.inl (hW 148 _ rfl)) (Or.inl (hW 146 _ rfl)) (by decide) (t := .int) (by decide) (t' := .int) (by decide)))
  have F1089 := Fld.other W1078 F1076_rch (Or.inr (slot_ne (Or.inl (hW 144 _ rfl)) (Or.inl (hW 146 _ rfl)) (by decide) (t := .long) (by decide) (t' := .int) (by decide)))
  have F1090 := Fld.other W1078 F1076_ob (Or.inr (slot_ne (Or.inl (hW 163 _ rfl)) (Or.inl (hW 146 _ rfl)) (by decide) (t := .long) (by decide) (t' := .int) (by decide)))
  have F1091 := Fld.other W1078 F1076_sb (Or.inr (slot_ne (Or.inl (hW 165 _ rfl)) (Or.inl (hW 146 _ rfl)) (by decide) (t := .long) (by decide) (t' := .int) (by decide)))
  have F1092 := Fld.other W1078 F1076_bb (Or.inr (slot_ne (Or.inl (hW 167 _ rfl)) (Or.inl (hW 146 _ rfl)) (by decide) (t := .long) (by decide) (t' := .int) (by decide)))
  refine hG.st (fun t q => XS.aloadN S1078.here hx rfl (hb hby own_d16_43) rfl rfl (XS.iloadN S1078.here hx rfl (hb hby own_d16_44) rfl q)) ?_
  show G T1078 (mkF m 45 #[rv a, iv rov, iv 4, iv rbv, iv 4] [(.int 4), (.ref a)])
  have E1093 := J1078.exa E_a1076
  refine Own.Sit.putF hG S1078 hx (host := "") (Or.inl (hW 141 _ rfl)) Via.refl F1087 E1093 (Or.inl (hW 142 _ rfl)) (hW 55 _ rfl) (ty := .int) (by decide) rfl rfl g_a (Safe.exa S1078.warm.alike E1093 (by decide) (by decide)) rfl rfl (hb hby own_d16_45) (fun T1094 h1094 S1094 J1094 W1094 F1094 => ?_)
  have F1095 := Fld.other W1094 F1079 (Or.inr (slot_ne (Or.inl (hW 63 _ rfl)) (Or.inl (hW 142 _ rfl)) (by decide) (t := (.array .int)) (by decide) (t' := .int) (by decide)))
  have F1096 := Fld.other W1094 F1080 (Or.inr (slot_ne (Or.inl (hW 80 _ rfl)) (Or.inl (hW 142 _ rfl)) (by decide) (t := .int) (by decide) (t' := .int) (by decide)))
  have F1097 := Fld.other W1094 F1081 (Or.inr (slot_ne (Or.inl (hW 67 _ rfl)) (Or.inl (hW 142 _ rfl)) (by decide) (t := (.array (.object "java/lang/String"))) (by decide) (t' := .int) (by decide)))
  have F1098 := Fld.other W1094 F1082 (Or.inr (slot_ne (Or.inl (hW 88 _ rfl)) (Or.inl (hW 142 _ rfl)) (by decide) (t := .int) (by decide) (t' := .int) (by decide)))
  have F1099 := Fld.other W1094 F1083 (Or.inr (slot_ne (Or.inl (hW 69 _ rfl)) (Or.inl (hW 142 _ rfl)) (by decide) (t := (.array .byte)) (by decide) (t' := .int) (by decide)))
  have F1100 := Fld.other W1094 F1084 (Or.inr (slot_ne (Or.inl (hW 122 _ rfl)) (Or.inl (hW 142 _ rfl)) (by decide) (t := .int) (by decide) (t' := .int) (by decide)))
  have F1101 := Fld.other W1094 F1085 (Or.inr (slot_ne (Or.inl (hW 90 _ rfl)) (Or.inl (hW 142 _ rfl)) (by decide) (t := .long) (by decide) (t' := .int) (by decide)))
  have F1102 := Fld.other W1094 F1086 (Or.inr (slot_ne (Or.inl (hW 82 _ rfl)) (Or.inl (hW 142 _ rfl)) (by decide) (t := .int) (by decide) (t' := .int) (by decide)))
  have F1103 := Fld.other W1094 F1078 (Or.inr (slot_ne (Or.inl (hW 146 _ rfl)) (Or.inl (hW 142 _ rfl)) (by decide) (t := .int) (by decide) (t' := .int) (by decide)))
  have F1104 := Fld.other W1094 F1088 (Or.inr (slot_ne (Or.inl (hW 148 _ rfl)) (Or.inl (hW 142 _ rfl)) (by decide) (t := .int) (by decide) (t' := .int) (by decide)))
  have F1105 := Fld.other W1094 F1089 (Or.inr (slot_ne (Or.inl (hW 144 _ rfl)) (Or.inl (hW 142 _ rfl)) (by decide) (t := .long) (by decide) (t' := .int) (by decide)))
  have F1106 := Fld.other W1094 F1090 (Or.inr (slot_ne (Or.inl (hW 163 _ rfl)) (Or.inl (hW 142 _ rfl)) (by decide) (t := .long) (by decide) (t' := .int) (by decide)))
  have F1107 := Fld.other W1094 F1091 (Or.inr (slot_ne (Or.inl (hW 165 _ rfl)) (Or.inl (hW 142 _ rfl)) (by decide) (t := .long) (by decide) (t' := .int) (by decide)))
  have F1108 := Fld.other W1094 F1092 (Or.inr (slot_ne (Or.inl (hW 167 _ rfl)) (Or.inl (hW 142 _ rfl)) (by decide) (t := .long) (by decide) (t' := .int) (by decide)))
  refine hG.st (fun t q => XS.aloadN S1094.here hx rfl (hb hby own_d16_48) rfl rfl (XS.iloadN S1094.here hx rfl (hb hby own_d16_49) rfl q)) ?_
  show G T1094 (mkF m 50 #[rv a, iv rov, iv 4, iv rbv, iv 4] [(.int rbv), (.ref a)])
  have E1109 := J1094.exa E1093
  refine Own.Sit.putF hG S1094 hx (host := "") (Or.inl (hW 147 _ rfl)) Via.refl F1104 E1109 (Or.inl (hW 148 _ rfl)) (hW 55 _ rfl) (ty := .int) (by decide) rfl rfl g_a (Safe.exa S1094.warm.alike E1109 (by decide) (by decide)) rfl rfl (hb hby own_d16_50) (fun T1110 h1110 S1110 J1110 W1110 F1110 => ?_)
  have F1111 := Fld.other W1110 F1095 (Or.inr (slot_ne (Or.inl (hW 63 _ rfl)) (Or.inl (hW 148 _ rfl)) (by decide) (t := (.array .int)) (by decide) (t' := .int) (by decide)))
  have F1112 := Fld.other W1110 F1096 (Or.inr (slot_ne (Or.inl (hW 80 _ rfl)) (Or.inl (hW 148 _ rfl)) (by decide) (t := .int) (by decide) (t' := .int) (by decide)))
  have F1113 := Fld.other W1110 F1097 (Or.inr (slot_ne (Or.inl (hW 67 _ rfl)) (Or.inl (hW 148 _ rfl)) (by decide) (t := (.array (.object "java/lang/String"))) (by decide) (t' := .int) (by decide)))
  have F1114 := Fld.other W1110 F1098 (Or.inr (slot_ne (Or.inl (hW 88 _ rfl)) (Or.inl (hW 148 _ rfl)) (by decide) (t := .int) (by decide) (t' := .int) (by decide)))
  have F1115 := Fld.other W1110 F1099 (Or.inr (slot_ne (Or.inl (hW 69 _ rfl)) (Or.inl (hW 148 _ rfl)) (by decide) (t := (.array .byte)) (by decide) (t' := .int) (by decide)))
  have F1116 := Fld.other W1110 F1100 (Or.inr (slot_ne (Or.inl (hW 122 _ rfl)) (Or.inl (hW 148 _ rfl)) (by decide) (t := .int) (by decide) (t' := .int) (by decide)))
  have F1117 := Fld.other W1110 F1101 (Or.inr (slot_ne (Or.inl (hW 90 _ rfl)) (Or.inl (hW 148 _ rfl)) (by decide) (t := .long) (by decide) (t' := .int) (by decide)))
  have F1118 := Fld.other W1110 F1102 (Or.inr (slot_ne (Or.inl (hW 82 _ rfl)) (Or.inl (hW 148 _ rfl)) (by decide) (t := .int) (by decide) (t' := .int) (by decide)))
  have F1119 := Fld.other W1110 F1103 (Or.inr (slot_ne (Or.inl (hW 146 _ rfl)) (Or.inl (hW 148 _ rfl)) (by decide) (t := .int) (by decide) (t' := .int) (by decide)))
  have F1120 := Fld.other W1110 F1094 (Or.inr (slot_ne (Or.inl (hW 142 _ rfl)) (Or.inl (hW 148 _ rfl)) (by decide) (t := .int) (by decide) (t' := .int) (by decide)))
  have F1121 := Fld.other W1110 F1105 (Or.inr (slot_ne (Or.inl (hW 144 _ rfl)) (Or.inl (hW 148 _ rfl)) (by decide) (t := .long) (by decide) (t' := .int) (by decide)))
  have F1122 := Fld.other W1110 F1106 (Or.inr (slot_ne (Or.inl (hW 163 _ rfl)) (Or.inl (hW 148 _ rfl)) (by decide) (t := .long) (by decide) (t' := .int) (by decide)))
  have F1123 := Fld.other W1110 F1107 (Or.inr (slot_ne (Or.inl (hW 165 _ rfl)) (Or.inl (hW 148 _ rfl)) (by decide) (t := .long) (by decide) (t' := .int) (by decide)))
  have F1124 := Fld.other W1110 F1108 (Or.inr (slot_ne (Or.inl (hW 167 _ rfl)) (Or.inl (hW 148 _ rfl)) (by decide) (t := .long) (by decide) (t' := .int) (by decide)))
  have J1125 : Own.Stp Z consts_1 vm0 h0 vm0 h1094 [a] := Own.Stp.trans J1078 J1094 (allS (List.mem_of_getElem? (i := 0) rfl) (all0)) (allS (Or.inl (List.mem_of_getElem? (i := 0) rfl)) all0)
  have J1126 : Own.Stp Z consts_1 vm0 h0 vm0 h1110 [a] := Own.Stp.trans J1125 J1110 (allS (List.mem_of_getElem? (i := 0) rfl) (all0)) (allS (Or.inl (List.mem_of_getElem? (i := 0) rfl)) all0)
  have E1127 := J1110.exa E1109
  show G T1110 (mkF m 53 #[rv a, iv rov, iv 4, iv rbv, iv 4] [])
  exact Own.Sit.ret0 hR S1110 hx hret (hb hby own_d16_53) (by decide) (by decide) ⟨J1126.1, rfl, ⟨E1127, F1111, F1112, F1113, F1114, F1115, F1116, F1117, F1118, F1119, F1120, F1110, F1121, F1122, F1123, F1124⟩⟩
theorem own_pn2b9680 : plainFor (⟨"com/example/scholiast/scholiast/XmlEvents", "release", "()V"⟩ : MethodName) = true := by first | exact plainFor_of_name (by first | (simp [plainName, overriddenIn]; done) | decide +kernel) | decide +kernel
theorem own_pde0dff9 : parseMethodDescriptor "(III)V" = some ⟨[.int, .int, .int], none⟩ := by decide +kernel
theorem own_d17_0 : decode prog_53_method_20_code 0 = .ok (.aload_n 0, 1) := by decide +kernel
theorem own_d17_1 : decode prog_53_method_20_code 1 = .ok (.aload_n 0, 1) := by decide +kernel
theorem own_d17_2 : decode prog_53_method_20_code 2 = .ok (.getfield 34, 3) := by decide +kernel
theorem own_d17_5 : decode prog_53_method_20_code 5 = .ok (.aload_n 0, 1) := by decide +kernel
theorem own_d17_6 : decode prog_53_method_20_code 6 = .ok (.getfield 67, 3) := by decide +kernel
theorem own_d17_9 : decode prog_53_method_20_code 9 = .ok (.aload_n 0, 1) := by decide +kernel
theorem own_d17_10 : decode prog_53_method_20_code 10 = .ok (.getfield 55, 3) := by decide +kernel
theorem own_d17_13 : decode prog_53_method_20_code 13 = .ok (.invokevirtual 77, 3) := by decide +kernel
theorem own_d17_16 : decode prog_53_method_20_code 16 = .ok (.return_, 1) := by decide +kernel
theorem own_ef_own_rel0 (m : MethodId) (a : Addr) : entryFrame m #[(.ref a)] 1 = mkF m 0 #[rv a] [] := by first | (simp [entryFrame, mkF, argsToLocals, Value.category]; done) | rfl
set_option maxRecDepth 65536 in
set_option maxHeartbeats 40000000 in
theorem own_rel0 (l : Launch) (Z : State) (a0 : Array Value) (H : own_Wld Z a0) {cw : List Jvm.Cond} (a : Addr) (o : Addr) (st : Addr) (bt : Addr) (bc : Int32) (ch : Int64) (lst : Int32) (ro : Int32) (rb : Int32) (rch : Int64) (ob : Int64) (sb : Int64) (bb : Int64) (u0 : Value) (u1 : Value) (u2 : Value) (u3 : Value) (n_u0 : Int32) (n_u1 : Int32) (n_u2 : Int32) (n_u3 : Int32) (B : Nat) (h0 : Heap) (O0 : Ext Z.heap h0) (OB : own_Ob Z h0 a o 6 st 4 bt bc ch lst ro 0 rb rch ob sb bb) {ks : ClassId} (SA : own_SA Z h0 st ks [u0, u1, u2, u3]) (N_u0 : own_NS Z h0 B u0 n_u0) (N_u1 : own_NS Z h0 B u1 n_u1) (N_u2 : own_NS Z h0 B u2 n_u2) (N_u3 : own_NS Z h0 B u3 n_u3) (ba : B ≤ a) (bs : B ≤ st) (g_a : Z.heap.size ≤ a) (g_s : Z.heap.size ≤ st) :
    Own.Con l Z consts_1 (⟨"com/example/scholiast/scholiast/XmlEvents", "release", "()V"⟩ : MethodName) prog_53_method_20_code 1 none cw ({ frames := 4, cells := 0, slots := 0, locals := 56 } : Room) #[(.ref a)] h0 (fun v h => Keep h0 h [a] ∧ v = none ∧ own_Ob Z h a o 6 st 4 bt bc ch lst 6 4 bc ((((rch + n_u0.toInt64) + n_u1.toInt64) + n_u2.toInt64) + n_u3.toInt64) ob sb bb) := by
  have hw := H.1
  have hW := fun (i : Nat) (w : Jvm.Cond) (e : tables_1[i]? = some w) => hw w (List.mem_of_getElem? e)
  have hCm := H.2.1
  have hSi := H.2.2.1
  have hEL := H.2.2.2
  have hWs : ∀ d ∈ StrChars.Road.words, d.before a0 Z = true := fun d hd => hw d (own_wbackV d hd)
  have hWl : ∀ d ∈ StrChars.Road.wordsLen, d.before a0 Z = true := fun d hd => hw d (own_wlenW d hd)
  have hSA : ∀ d ∈ Bundle.stringAtoms, d.before a0 Z = true := fun d hd => hw d (own_wSA d hd)
  refine Own.Con.of own_pn2b9680 hEL O0 ?_
  intro p e s m below meth c T0 G vm0 hx hby hml hret hnm hG hR S0
  have hz : ∀ L : Array Slot, L.size = 1 → L.size = c.maxLocals := fun L q => q.trans hml.symm
  rw [own_ef_own_rel0]
  show G T0 (mkF m 0 #[rv a] [])
  obtain ⟨E_a1128, F1128_o, F1128_oc, F1128_st, F1128_sc, F1128_bt, F1128_bc, F1128_ch, F1128_lst, F1128_ro, F1128_rs, F1128_rb, F1128_rch, F1128_ob, F1128_sb, F1128_bb⟩ := id OB
  obtain ⟨As, hOv⟩ := id SA
  refine hG.st (fun t q => XS.aloadN S0.here hx rfl (hb hby own_d17_0) rfl rfl (XS.aloadN S0.here hx rfl (hb hby own_d17_1) rfl rfl q)) ?_
  show G T0 (mkF m 2 #[rv a] [(.ref a), (.ref a)])
  refine Own.Sit.getF hG S0 hx (host := "") (Or.inl (hW 79 _ rfl)) Via.refl F1128_oc rfl rfl (hb hby own_d17_2) (fun T1129 S1129 => ?_)
  refine hG.st (fun t q => XS.aloadN S1129.here hx rfl (hb hby own_d17_5) rfl rfl q) ?_
  show G T1129 (mkF m 6 #[rv a] [(.ref a), (.int 6), (.ref a)])
  refine Own.Sit.getF hG S1129 hx (host := "") (Or.inl (hW 87 _ rfl)) Via.refl F1128_sc rfl rfl (hb hby own_d17_6) (fun T1130 S1130 => ?_)
  refine hG.st (fun t q => XS.aloadN S1130.here hx rfl (hb hby own_d17_9) rfl rfl q) ?_
  show G T1130 (mkF m 10 #[rv a] [(.ref a), (.int 4), (.int 6), (.ref a)])
  refine Own.Sit.getF hG S1130 hx (host := "") (Or.inl (hW 121 _ rfl)) Via.refl F1128_bc rfl rfl (hb hby own_d17_10) (fun T1131 S1131 => ?_)
  have OB1132 : own_Ob Z h0 a o (6 : Int32) st (4 : Int32) bt bc ch lst ro (0 : Int32) rb rch ob sb bb := ⟨E_a1128, F1128_o, F1128_oc, F1128_st, F1128_sc, F1128_bt, F1128_bc, F1128_ch, F1128_lst, F1128_ro, F1128_rs, F1128_rb, F1128_rch, F1128_ob, F1128_sb, F1128_bb⟩
  show G T1131 (mkF m 13 #[rv a] [(.int bc), (.int 4), (.int 6), (.ref a)])
  refine Own.Sit.callP hG S1131 hx hEL (as := [(.int 6), (.int 4), (.int bc)]) (hW 137 _ rfl) (hW 139 _ rfl) (hW 55 _ rfl) (hW 138 _ rfl) (hW 56 _ rfl) (hW 140 _ rfl) (by decide) E_a1128 (own_mark04 l Z a0 H a (6 : Int32) bc o (6 : Int32) st (4 : Int32) bt bc ch lst ro rb rch ob sb bb u0 u1 u2 u3 n_u0 n_u1 n_u2 n_u3 B h0 S1131.old OB1132 ⟨As, hOv⟩ N_u0 N_u1 N_u2 N_u3 ba bs g_a g_s) own_pde0dff9 rfl rfl (hz _ rfl) (rest := []) rfl (W := 0) (Own.hw0 rfl rfl) (hb hby own_d17_13) (by decide) (by decide) (by decide) (by decide) (fun v1133 vm1133 T1133 h1133 S1133 C1133 q1133 => ?_)
  obtain ⟨K1133, rfl, OB1133⟩ := q1133
  have J1133 : Own.Stp Z consts_1 vm0 h0 vm1133 h1133 [a] := ⟨K1133, C1133⟩
  have OC1133 : own_Ob Z h1133 a o (6 : Int32) st (4 : Int32) bt bc ch lst (6 : Int32) (4 : Int32) bc ((((rch + n_u0.toInt64) + n_u1.toInt64) + n_u2.toInt64) + n_u3.toInt64) ob sb bb := OB1133
  obtain ⟨E_a1134, F1134_o, F1134_oc, F1134_st, F1134_sc, F1134_bt, F1134_bc, F1134_ch, F1134_lst, F1134_ro, F1134_rs, F1134_rb, F1134_rch, F1134_ob, F1134_sb, F1134_bb⟩ := id OC1133
  show G T1133 (mkF m 16 #[rv a] [])
  exact Own.Sit.ret0 hR S1133 hx hret (hb hby own_d17_16) (by decide) (by decide) ⟨J1133.1, rfl, ⟨E_a1134, F1134_o, F1134_oc, F1134_st, F1134_sc, F1134_bt, F1134_bc, F1134_ch, F1134_lst, F1134_ro, F1134_rs, F1134_rb, F1134_rch, F1134_ob, F1134_sb, F1134_bb⟩⟩
theorem own_ef_own_rel2 (m : MethodId) (a : Addr) : entryFrame m #[(.ref a)] 1 = mkF m 0 #[rv a] [] := by first | (simp [entryFrame, mkF, argsToLocals, Value.category]; done) | rfl
set_option maxRecDepth 65536 in
set_option maxHeartbeats 40000000 in
theorem own_rel2 (l : Launch) (Z : State) (a0 : Array Value) (H : own_Wld Z a0) {cw : List Jvm.Cond} (a : Addr) (o : Addr) (st : Addr) (bt : Addr) (bc : Int32) (ch : Int64) (lst : Int32) (ro : Int32) (rb : Int32) (rch : Int64) (ob : Int64) (sb : Int64) (bb : Int64) (u0 : Value) (u1 : Value) (u2 : Value) (u3 : Value) (n_u0 : Int32) (n_u1 : Int32) (n_u2 : Int32) (n_u3 : Int32) (B : Nat) (h0 : Heap) (O0 : Ext Z.heap h0) (OB : own_Ob Z h0 a o 6 st 4 bt bc ch lst ro 2 rb rch ob sb bb) {ks : ClassId} (SA : own_SA Z h0 st ks [u0, u1, u2, u3]) (N_u0 : own_NS Z h0 B u0 n_u0) (N_u1 : own_NS Z h0 B u1 n_u1) (N_u2 : own_NS Z h0 B u2 n_u2) (N_u3 : own_NS Z h0 B u3 n_u3) (ba : B ≤ a) (bs : B ≤ st) (g_a : Z.heap.size ≤ a) (g_s : Z.heap.size ≤ st) :
    Own.Con l Z consts_1 (⟨"com/example/scholiast/scholiast/XmlEvents", "release", "()V"⟩ : MethodName) prog_53_method_20_code 1 none cw ({ frames := 4, cells := 0, slots := 0, locals := 56 } : Room) #[(.ref a)] h0 (fun v h => Keep h0 h [a] ∧ v = none ∧ own_Ob Z h a o 6 st 4 bt bc ch lst 6 4 bc ((rch + n_u2.toInt64) + n_u3.toInt64) ob sb bb) := by
  have hw := H.1
  have hW := fun (i : Nat) (w : Jvm.Cond) (e : tables_1[i]? = some w) => hw w (List.mem_of_getElem? e)
  have hCm := H.2.1
  have hSi := H.2.2.1
  have hEL := H.2.2.2
  have hWs : ∀ d ∈ StrChars.Road.words, d.before a0 Z = true := fun d hd => hw d (own_wbackV d hd)
  have hWl : ∀ d ∈ StrChars.Road.wordsLen, d.before a0 Z = true := fun d hd => hw d (own_wlenW d hd)
  have hSA : ∀ d ∈ Bundle.stringAtoms, d.before a0 Z = true := fun d hd => hw d (own_wSA d hd)
  refine Own.Con.of own_pn2b9680 hEL O0 ?_
  intro p e s m below meth c T0 G vm0 hx hby hml hret hnm hG hR S0
  have hz : ∀ L : Array Slot, L.size = 1 → L.size = c.maxLocals := fun L q => q.trans hml.symm
  rw [own_ef_own_rel2]
  show G T0 (mkF m 0 #[rv a] [])
  obtain ⟨E_a1135, F1135_o, F1135_oc, F1135_st, F1135_sc, F1135_bt, F1135_bc, F1135_ch, F1135_lst, F1135_ro, F1135_rs, F1135_rb, F1135_rch, F1135_ob, F1135_sb, F1135_bb⟩ := id OB
  obtain ⟨As, hOv⟩ := id SA
  refine hG.st (fun t q => XS.aloadN S0.here hx rfl (hb hby own_d17_0) rfl rfl (XS.aloadN S0.here hx rfl (hb hby own_d17_1) rfl rfl q)) ?_
  show G T0 (mkF m 2 #[rv a] [(.ref a), (.ref a)])
  refine Own.Sit.getF hG S0 hx (host := "") (Or.inl (hW 79 _ rfl)) Via.refl F1135_oc rfl rfl (hb hby own_d17_2) (fun T1136 S1136 => ?_)
  refine hG.st (fun t q => XS.aloadN S1136.here hx rfl (hb hby own_d17_5) rfl rfl q) ?_
  show G T1136 (mkF m 6 #[rv a] [(.ref a), (.int 6), (.ref a)])
  refine Own.Sit.getF hG S1136 hx (host := "") (Or.inl (hW 87 _ rfl)) Via.refl F1135_sc rfl rfl (hb hby own_d17_6) (fun T1137 S1137 => ?_)
  refine hG.st (fun t q => XS.aloadN S1137.here hx rfl (hb hby own_d17_9) rfl rfl q) ?_
  show G T1137 (mkF m 10 #[rv a] [(.ref a), (.int 4), (.int 6), (.ref a)])
  refine Own.Sit.getF hG S1137 hx (host := "") (Or.inl (hW 121 _ rfl)) Via.refl F1135_bc rfl rfl (hb hby own_d17_10) (fun T1138 S1138 => ?_)
  have OB1139 : own_Ob Z h0 a o (6 : Int32) st (4 : Int32) bt bc ch lst ro (2 : Int32) rb rch ob sb bb := ⟨E_a1135, F1135_o, F1135_oc, F1135_st, F1135_sc, F1135_bt, F1135_bc, F1135_ch, F1135_lst, F1135_ro, F1135_rs, F1135_rb, F1135_rch, F1135_ob, F1135_sb, F1135_bb⟩
  show G T1138 (mkF m 13 #[rv a] [(.int bc), (.int 4), (.int 6), (.ref a)])
  refine Own.Sit.callP hG S1138 hx hEL (as := [(.int 6), (.int 4), (.int bc)]) (hW 137 _ rfl) (hW 139 _ rfl) (hW 55 _ rfl) (hW 138 _ rfl) (hW 56 _ rfl) (hW 140 _ rfl) (by decide) E_a1135 (own_mark24 l Z a0 H a (6 : Int32) bc o (6 : Int32) st (4 : Int32) bt bc ch lst ro rb rch ob sb bb u0 u1 u2 u3 n_u0 n_u1 n_u2 n_u3 B h0 S1138.old OB1139 ⟨As, hOv⟩ N_u0 N_u1 N_u2 N_u3 ba bs g_a g_s) own_pde0dff9 rfl rfl (hz _ rfl) (rest := []) rfl (W := 0) (Own.hw0 rfl rfl) (hb hby own_d17_13) (by decide) (by decide) (by decide) (by decide) (fun v1140 vm1140 T1140 h1140 S1140 C1140 q1140 => ?_)
  obtain ⟨K1140, rfl, OB1140⟩ := q1140
  have J1140 : Own.Stp Z consts_1 vm0 h0 vm1140 h1140 [a] := ⟨K1140, C1140⟩
  have OC1140 : own_Ob Z h1140 a o (6 : Int32) st (4 : Int32) bt bc ch lst (6 : Int32) (4 : Int32) bc ((rch + n_u2.toInt64) + n_u3.toInt64) ob sb bb := OB1140
  obtain ⟨E_a1141, F1141_o, F1141_oc, F1141_st, F1141_sc, F1141_bt, F1141_bc, F1141_ch, F1141_lst, F1141_ro, F1141_rs, F1141_rb, F1141_rch, F1141_ob, F1141_sb, F1141_bb⟩ := id OC1140
  show G T1140 (mkF m 16 #[rv a] [])
  exact Own.Sit.ret0 hR S1140 hx hret (hb hby own_d17_16) (by decide) (by decide) ⟨J1140.1, rfl, ⟨E_a1141, F1141_o, F1141_oc, F1141_st, F1141_sc, F1141_bt, F1141_bc, F1141_ch, F1141_lst, F1141_ro, F1141_rs, F1141_rb, F1141_rch, F1141_ob, F1141_sb, F1141_bb⟩⟩
theorem own_ef_own_rel4 (m : MethodId) (a : Addr) : entryFrame m #[(.ref a)] 1 = mkF m 0 #[rv a] [] := by first | (simp [entryFrame, mkF, argsToLocals, Value.category]; done) | rfl
set_option maxRecDepth 65536 in
set_option maxHeartbeats 40000000 in
theorem own_rel4 (l : Launch) (Z : State) (a0 : Array Value) (H : own_Wld Z a0) {cw : List Jvm.Cond} (a : Addr) (o : Addr) (st : Addr) (bt : Addr) (bc : Int32) (ch : Int64) (lst : Int32) (ro : Int32) (rb : Int32) (rch : Int64) (ob : Int64) (sb : Int64) (bb : Int64) (u0 : Value) (u1 : Value) (u2 : Value) (u3 : Value) (n_u0 : Int32) (n_u1 : Int32) (n_u2 : Int32) (n_u3 : Int32) (B : Nat) (h0 : Heap) (O0 : Ext Z.heap h0) (OB : own_Ob Z h0 a o 6 st 4 bt bc ch lst ro 4 rb rch ob sb bb) {ks : ClassId} (SA : own_SA Z h0 st ks [u0, u1, u2, u3]) (N_u0 : own_NS Z h0 B u0 n_u0) (N_u1 : own_NS Z h0 B u1 n_u1) (N_u2 : own_NS Z h0 B u2 n_u2) (N_u3 : own_NS Z h0 B u3 n_u3) (ba : B ≤ a) (bs : B ≤ st) (g_a : Z.heap.size ≤ a) (g_s : Z.heap.size ≤ st) :
    Own.Con l Z consts_1 (⟨"com/example/scholiast/scholiast/XmlEvents", "release", "()V"⟩ : MethodName) prog_53_method_20_code 1 none cw ({ frames := 1, cells := 0, slots := 0, locals := 16 } : Room) #[(.ref a)] h0 (fun v h => Keep h0 h [a] ∧ v = none ∧ own_Ob Z h a o 6 st 4 bt bc ch lst 6 4 bc rch ob sb bb) := by
  have hw := H.1
  have hW := fun (i : Nat) (w : Jvm.Cond) (e : tables_1[i]? = some w) => hw w (List.mem_of_getElem? e)
  have hCm := H.2.1
  have hSi := H.2.2.1
  have hEL := H.2.2.2
  have hWs : ∀ d ∈ StrChars.Road.words, d.before a0 Z = true := fun d hd => hw d (own_wbackV d hd)
  have hWl : ∀ d ∈ StrChars.Road.wordsLen, d.before a0 Z = true := fun d hd => hw d (own_wlenW d hd)
  have hSA : ∀ d ∈ Bundle.stringAtoms, d.before a0 Z = true := fun d hd => hw d (own_wSA d hd)
  refine Own.Con.of own_pn2b9680 hEL O0 ?_
  intro p e s m below meth c T0 G vm0 hx hby hml hret hnm hG hR S0
  have hz : ∀ L : Array Slot, L.size = 1 → L.size = c.maxLocals := fun L q => q.trans hml.symm
  rw [own_ef_own_rel4]
  show G T0 (mkF m 0 #[rv a] [])
  obtain ⟨E_a1142, F1142_o, F1142_oc, F1142_st, F1142_sc, F1142_bt, F1142_bc, F1142_ch, F1142_lst, F1142_ro, F1142_rs, F1142_rb, F1142_rch, F1142_ob, F1142_sb, F1142_bb⟩ := id OB
  obtain ⟨As, hOv⟩ := id SA
  refine hG.st (fun t q => XS.aloadN S0.here hx rfl (hb hby own_d17_0) rfl rfl (XS.aloadN S0.here hx rfl (hb hby own_d17_1) rfl rfl q)) ?_
  show G T0 (mkF m 2 #[rv a] [(.ref a), (.ref a)])
  refine Own.Sit.getF hG S0 hx (host := "") (Or.inl (hW 79 _ rfl)) Via.refl F1142_oc rfl rfl (hb hby own_d17_2) (fun T1143 S1143 => ?_)
  refine hG.st (fun t q => XS.aloadN S1143.here hx rfl (hb hby own_d17_5) rfl rfl q) ?_
  show G T1143 (mkF m 6 #[rv a] [(.ref a), (.int 6), (.ref a)])
  refine Own.Sit.getF hG S1143 hx (host := "") (Or.inl (hW 87 _ rfl)) Via.refl F1142_sc rfl rfl (hb hby own_d17_6) (fun T1144 S1144 => ?_)
  refine hG.st (fun t q => XS.aloadN S1144.here hx rfl (hb hby own_d17_9) rfl rfl q) ?_
  show G T1144 (mkF m 10 #[rv a] [(.ref a), (.int 4), (.int 6), (.ref a)])
  refine Own.Sit.getF hG S1144 hx (host := "") (Or.inl (hW 121 _ rfl)) Via.refl F1142_bc rfl rfl (hb hby own_d17_10) (fun T1145 S1145 => ?_)
  have OB1146 : own_Ob Z h0 a o (6 : Int32) st (4 : Int32) bt bc ch lst ro (4 : Int32) rb rch ob sb bb := ⟨E_a1142, F1142_o, F1142_oc, F1142_st, F1142_sc, F1142_bt, F1142_bc, F1142_ch, F1142_lst, F1142_ro, F1142_rs, F1142_rb, F1142_rch, F1142_ob, F1142_sb, F1142_bb⟩
  show G T1145 (mkF m 13 #[rv a] [(.int bc), (.int 4), (.int 6), (.ref a)])
  refine Own.Sit.callP hG S1145 hx hEL (as := [(.int 6), (.int 4), (.int bc)]) (hW 137 _ rfl) (hW 139 _ rfl) (hW 55 _ rfl) (hW 138 _ rfl) (hW 56 _ rfl) (hW 140 _ rfl) (by decide) E_a1142 (own_mark44 l Z a0 H a (6 : Int32) bc o (6 : Int32) st (4 : Int32) bt bc ch lst ro rb rch ob sb bb u0 u1 u2 u3 n_u0 n_u1 n_u2 n_u3 B h0 S1145.old OB1146 ⟨As, hOv⟩ N_u0 N_u1 N_u2 N_u3 ba bs g_a g_s) own_pde0dff9 rfl rfl (hz _ rfl) (rest := []) rfl (W := 0) (Own.hw0 rfl rfl) (hb hby own_d17_13) (by decide) (by decide) (by decide) (by decide) (fun v1147 vm1147 T1147 h1147 S1147 C1147 q1147 => ?_)
  obtain ⟨K1147, rfl, OB1147⟩ := q1147
  have J1147 : Own.Stp Z consts_1 vm0 h0 vm1147 h1147 [a] := ⟨K1147, C1147⟩
  have OC1147 : own_Ob Z h1147 a o (6 : Int32) st (4 : Int32) bt bc ch lst (6 : Int32) (4 : Int32) bc rch ob sb bb := OB1147
  obtain ⟨E_a1148, F1148_o, F1148_oc, F1148_st, F1148_sc, F1148_bt, F1148_bc, F1148_ch, F1148_lst, F1148_ro, F1148_rs, F1148_rb, F1148_rch, F1148_ob, F1148_sb, F1148_bb⟩ := id OC1147
  show G T1147 (mkF m 16 #[rv a] [])
  exact Own.Sit.ret0 hR S1147 hx hret (hb hby own_d17_16) (by decide) (by decide) ⟨J1147.1, rfl, ⟨E_a1148, F1148_o, F1148_oc, F1148_st, F1148_sc, F1148_bt, F1148_bc, F1148_ch, F1148_lst, F1148_ro, F1148_rs, F1148_rb, F1148_rch, F1148_ob, F1148_sb, F1148_bb⟩⟩
theorem own_pn125592 : plainFor (⟨"com/example/scholiast/scholiast/XmlEvents", "releaseBefore", "(JJJ)V"⟩ : MethodName) = true := by first | exact plainFor_of_name (by first | (simp [plainName, overriddenIn]; done) | decide +kernel) | decide +kernel
theorem own_d18_0 : decode prog_53_method_21_code 0 = .ok (.aload_n 0, 1) := by decide +kernel
theorem own_d18_1 : decode prog_53_method_21_code 1 = .ok (.lload_n 1, 1) := by decide +kernel
theorem own_d18_2 : decode prog_53_method_21_code 2 = .ok (.aload_n 0, 1) := by decide +kernel
theorem own_d18_3 : decode prog_53_method_21_code 3 = .ok (.getfield 61, 3) := by decide +kernel
theorem own_d18_6 : decode prog_53_method_21_code 6 = .ok (.lsub, 1) := by decide +kernel
theorem own_d18_7 : decode prog_53_method_21_code 7 = .ok (.l2i, 1) := by decide +kernel
theorem own_d18_8 : decode prog_53_method_21_code 8 = .ok (.lload_n 3, 1) := by decide +kernel
theorem own_d18_9 : decode prog_53_method_21_code 9 = .ok (.aload_n 0, 1) := by decide +kernel
theorem own_d18_10 : decode prog_53_method_21_code 10 = .ok (.getfield 64, 3) := by decide +kernel
theorem own_d18_13 : decode prog_53_method_21_code 13 = .ok (.lsub, 1) := by decide +kernel
theorem own_d18_14 : decode prog_53_method_21_code 14 = .ok (.l2i, 1) := by decide +kernel
theorem own_d18_15 : decode prog_53_method_21_code 15 = .ok (.lload 5, 2) := by decide +kernel
theorem own_d18_17 : decode prog_53_method_21_code 17 = .ok (.aload_n 0, 1) := by decide +kernel
theorem own_d18_18 : decode prog_53_method_21_code 18 = .ok (.getfield 70, 3) := by decide +kernel
theorem own_d18_21 : decode prog_53_method_21_code 21 = .ok (.lsub, 1) := by decide +kernel
theorem own_d18_22 : decode prog_53_method_21_code 22 = .ok (.l2i, 1) := by decide +kernel
theorem own_d18_23 : decode prog_53_method_21_code 23 = .ok (.invokevirtual 77, 3) := by decide +kernel
theorem own_d18_26 : decode prog_53_method_21_code 26 = .ok (.return_, 1) := by decide +kernel
theorem own_ef_own_rb3 (m : MethodId) (a : Addr) : entryFrame m #[(.ref a), (.long (3 : Int64)), (.long (2 : Int64)), (.long (0 : Int64))] 7 = mkF m 0 #[rv a, .val (.long (3 : Int64)), .second, .val (.long (2 : Int64)), .second, .val (.long (0 : Int64)), .second] [] := by first | (simp [entryFrame, mkF, argsToLocals, Value.category]; done) | rfl
set_option maxRecDepth 65536 in
set_option maxHeartbeats 40000000 in
theorem own_rb3 (l : Launch) (Z : State) (a0 : Array Value) (H : own_Wld Z a0) {cw : List Jvm.Cond} (a : Addr) (o : Addr) (oc : Int32) (st : Addr) (sc : Int32) (bt : Addr) (bc : Int32) (ch : Int64) (lst : Int32) (ro : Int32) (rb : Int32) (rch : Int64) (u0 : Value) (u1 : Value) (u2 : Value) (u3 : Value) (n_u0 : Int32) (n_u1 : Int32) (n_u2 : Int32) (n_u3 : Int32) (B : Nat) (h0 : Heap) (O0 : Ext Z.heap h0) (OB : own_Ob Z h0 a o oc st sc bt bc ch lst ro 0 rb rch 0 0 0) {ks : ClassId} (SA : own_SA Z h0 st ks [u0, u1, u2, u3]) (N_u0 : own_NS Z h0 B u0 n_u0) (N_u1 : own_NS Z h0 B u1 n_u1) (N_u2 : own_NS Z h0 B u2 n_u2) (N_u3 : own_NS Z h0 B u3 n_u3) (ba : B ≤ a) (bs : B ≤ st) (g_a : Z.heap.size ≤ a) (g_s : Z.heap.size ≤ st) :
    Own.Con l Z consts_1 (⟨"com/example/scholiast/scholiast/XmlEvents", "releaseBefore", "(JJJ)V"⟩ : MethodName) prog_53_method_21_code 7 none cw ({ frames := 4, cells := 0, slots := 0, locals := 56 } : Room) #[(.ref a), (.long (3 : Int64)), (.long (2 : Int64)), (.long (0 : Int64))] h0 (fun v h => Keep h0 h [a] ∧ v = none ∧ own_Ob Z h a o oc st sc bt bc ch lst 3 2 0 ((rch + n_u0.toInt64) + n_u1.toInt64) 0 0 0) := by
  have hw := H.1
  have hW := fun (i : Nat) (w : Jvm.Cond) (e : tables_1[i]? = some w) => hw w (List.mem_of_getElem? e)
  have hCm := H.2.1
  have hSi := H.2.2.1
  have hEL := H.2.2.2
  have hWs : ∀ d ∈ StrChars.Road.words, d.before a0 Z = true := fun d hd => hw d (own_wbackV d hd)
  have hWl : ∀ d ∈ StrChars.Road.wordsLen, d.before a0 Z = true := fun d hd => hw d (own_wlenW d hd)
  have hSA : ∀ d ∈ Bundle.stringAtoms, d.before a0 Z = true := fun d hd => hw d (own_wSA d hd)
  refine Own.Con.of own_pn125592 hEL O0 ?_
  intro p e s m below meth c T0 G vm0 hx hby hml hret hnm hG hR S0
  have hz : ∀ L : Array Slot, L.size = 7 → L.size = c.maxLocals := fun L q => q.trans hml.symm
  rw [own_ef_own_rb3]
  show G T0 (mkF m 0 #[rv a, .val (.long (3 : Int64)), .second, .val (.long (2 : Int64)), .second, .val (.long (0 : Int64)), .second] [])
  obtain ⟨E_a1149, F1149_o, F1149_oc, F1149_st, F1149_sc, F1149_bt, F1149_bc, F1149_ch, F1149_lst, F1149_ro, F1149_rs, F1149_rb, F1149_rch, F1149_ob, F1149_sb, F1149_bb⟩ := id OB
  obtain ⟨As, hOv⟩ := id SA
  refine hG.st (fun t q => XS.aloadN S0.here hx rfl (hb hby own_d18_0) rfl rfl (XS.lloadN S0.here hx rfl (hb hby own_d18_1) rfl (XS.aloadN S0.here hx rfl (hb hby own_d18_2) rfl rfl q))) ?_
  show G T0 (mkF m 3 #[rv a, .val (.long (3 : Int64)), .second, .val (.long (2 : Int64)), .second, .val (.long (0 : Int64)), .second] [(.ref a), (.long (3 : Int64)), (.ref a)])
  refine Own.Sit.getF hG S0 hx (host := "") (Or.inl (hW 162 _ rfl)) Via.refl F1149_ob rfl rfl (hb hby own_d18_3) (fun T1150 S1150 => ?_)
  refine hG.st (fun t q => XS.lsub S1150.here hx rfl (hb hby own_d18_6) rfl (XS.l2i S1150.here hx rfl (hb hby own_d18_7) rfl (XS.lloadN S1150.here hx rfl (hb hby own_d18_8) rfl (XS.aloadN S1150.here hx rfl (hb hby own_d18_9) rfl rfl q)))) ?_
  show G T1150 (mkF m 10 #[rv a, .val (.long (3 : Int64)), .second, .val (.long (2 : Int64)), .second, .val (.long (0 : Int64)), .second] [(.ref a), (.long (2 : Int64)), (.int 3), (.ref a)])
  refine Own.Sit.getF hG S1150 hx (host := "") (Or.inl (hW 164 _ rfl)) Via.refl F1149_sb rfl rfl (hb hby own_d18_10) (fun T1151 S1151 => ?_)
  refine hG.st (fun t q => XS.lsub S1151.here hx rfl (hb hby own_d18_13) rfl (XS.l2i S1151.here hx rfl (hb hby own_d18_14) rfl (XS.lload S1151.here hx rfl (hb hby own_d18_15) rfl (XS.aloadN S1151.here hx rfl (hb hby own_d18_17) rfl rfl q)))) ?_
  show G T1151 (mkF m 18 #[rv a, .val (.long (3 : Int64)), .second, .val (.long (2 : Int64)), .second, .val (.long (0 : Int64)), .second] [(.ref a), (.long (0 : Int64)), (.int 2), (.int 3), (.ref a)])
  refine Own.Sit.getF hG S1151 hx (host := "") (Or.inl (hW 166 _ rfl)) Via.refl F1149_bb rfl rfl (hb hby own_d18_18) (fun T1152 S1152 => ?_)
  refine hG.st (fun t q => XS.lsub S1152.here hx rfl (hb hby own_d18_21) rfl (XS.l2i S1152.here hx rfl (hb hby own_d18_22) rfl q)) ?_
  show G T1152 (mkF m 23 #[rv a, .val (.long (3 : Int64)), .second, .val (.long (2 : Int64)), .second, .val (.long (0 : Int64)), .second] [(.int 0), (.int 2), (.int 3), (.ref a)])
  have OB1153 : own_Ob Z h0 a o oc st sc bt bc ch lst ro (0 : Int32) rb rch (0 : Int64) (0 : Int64) (0 : Int64) := ⟨E_a1149, F1149_o, F1149_oc, F1149_st, F1149_sc, F1149_bt, F1149_bc, F1149_ch, F1149_lst, F1149_ro, F1149_rs, F1149_rb, F1149_rch, F1149_ob, F1149_sb, F1149_bb⟩
  refine Own.Sit.callP hG S1152 hx hEL (as := [(.int 3), (.int 2), (.int 0)]) (hW 137 _ rfl) (hW 139 _ rfl) (hW 55 _ rfl) (hW 138 _ rfl) (hW 56 _ rfl) (hW 140 _ rfl) (by decide) E_a1149 (own_mark02 l Z a0 H a (3 : Int32) (0 : Int32) o oc st sc bt bc ch lst ro rb rch (0 : Int64) (0 : Int64) (0 : Int64) u0 u1 u2 u3 n_u0 n_u1 n_u2 n_u3 B h0 S1152.old OB1153 ⟨As, hOv⟩ N_u0 N_u1 N_u2 N_u3 ba bs g_a g_s) own_pde0dff9 rfl rfl (hz _ rfl) (rest := []) rfl (W := 0) (Own.hw0 rfl rfl) (hb hby own_d18_23) (by decide) (by decide) (by decide) (by decide) (fun v1154 vm1154 T1154 h1154 S1154 C1154 q1154 => ?_)
  obtain ⟨K1154, rfl, OB1154⟩ := q1154
  have J1154 : Own.Stp Z consts_1 vm0 h0 vm1154 h1154 [a] := ⟨K1154, C1154⟩
  have OC1154 : own_Ob Z h1154 a o oc st sc bt bc ch lst (3 : Int32) (2 : Int32) (0 : Int32) ((rch + n_u0.toInt64) + n_u1.toInt64) (0 : Int64) (0 : Int64) (0 : Int64) := OB1154
  obtain ⟨E_a1155, F1155_o, F1155_oc, F1155_st, F1155_sc, F1155_bt, F1155_bc, F1155_ch, F1155_lst, F1155_ro, F1155_rs, F1155_rb, F1155_rch, F1155_ob, F1155_sb, F1155_bb⟩ := id OC1154
  show G T1154 (mkF m 26 #[rv a, .val (.long (3 : Int64)), .second, .val (.long (2 : Int64)), .second, .val (.long (0 : Int64)), .second] [])
  exact Own.Sit.ret0 hR S1154 hx hret (hb hby own_d18_26) (by decide) (by decide) ⟨J1154.1, rfl, ⟨E_a1155, F1155_o, F1155_oc, F1155_st, F1155_sc, F1155_bt, F1155_bc, F1155_ch, F1155_lst, F1155_ro, F1155_rs, F1155_rb, F1155_rch, F1155_ob, F1155_sb, F1155_bb⟩⟩
theorem own_ef_own_rb5 (m : MethodId) (a : Addr) (z5 : Int64) : entryFrame m #[(.ref a), (.long (5 : Int64)), (.long (2 : Int64)), (.long z5)] 7 = mkF m 0 #[rv a, .val (.long (5 : Int64)), .second, .val (.long (2 : Int64)), .second, .val (.long z5), .second] [] := by first | (simp [entryFrame, mkF, argsToLocals, Value.category]; done) | rfl
set_option maxRecDepth 65536 in
set_option maxHeartbeats 40000000 in
theorem own_rb5 (l : Launch) (Z : State) (a0 : Array Value) (H : own_Wld Z a0) {cw : List Jvm.Cond} (a : Addr) (z5 : Int64) (o : Addr) (oc : Int32) (st : Addr) (sc : Int32) (bt : Addr) (bc : Int32) (ch : Int64) (lst : Int32) (ro : Int32) (rb : Int32) (rch : Int64) (u0 : Value) (u1 : Value) (u2 : Value) (u3 : Value) (n_u0 : Int32) (n_u1 : Int32) (n_u2 : Int32) (n_u3 : Int32) (B : Nat) (h0 : Heap) (O0 : Ext Z.heap h0) (OB : own_Ob Z h0 a o oc st sc bt bc ch lst ro 0 rb rch 0 0 0) {ks : ClassId} (SA : own_SA Z h0 st ks [u0, u1, u2, u3]) (N_u0 : own_NS Z h0 B u0 n_u0) (N_u1 : own_NS Z h0 B u1 n_u1) (N_u2 : own_NS Z h0 B u2 n_u2) (N_u3 : own_NS Z h0 B u3 n_u3) (ba : B ≤ a) (bs : B ≤ st) (g_a : Z.heap.size ≤ a) (g_s : Z.heap.size ≤ st) :
    Own.Con l Z consts_1 (⟨"com/example/scholiast/scholiast/XmlEvents", "releaseBefore", "(JJJ)V"⟩ : MethodName) prog_53_method_21_code 7 none cw ({ frames := 4, cells := 0, slots := 0, locals := 56 } : Room) #[(.ref a), (.long (5 : Int64)), (.long (2 : Int64)), (.long z5)] h0 (fun v h => Keep h0 h [a] ∧ v = none ∧ own_Ob Z h a o oc st sc bt bc ch lst 5 2 ((z5 - (0 : Int64)).toInt32) ((rch + n_u0.toInt64) + n_u1.toInt64) 0 0 0) := by
  have hw := H.1
  have hW := fun (i : Nat) (w : Jvm.Cond) (e : tables_1[i]? = some w) => hw w (List.mem_of_getElem? e)
  have hCm := H.2.1
  have hSi := H.2.2.1
  have hEL := H.2.2.2
  have hWs : ∀ d ∈ StrChars.Road.words, d.before a0 Z = true := fun d hd => hw d (own_wbackV d hd)
  have hWl : ∀ d ∈ StrChars.Road.wordsLen, d.before a0 Z = true := fun d hd => hw d (own_wlenW d hd)
  have hSA : ∀ d ∈ Bundle.stringAtoms, d.before a0 Z = true := fun d hd => hw d (own_wSA d hd)
  refine Own.Con.of own_pn125592 hEL O0 ?_
  intro p e s m below meth c T0 G vm0 hx hby hml hret hnm hG hR S0
  have hz : ∀ L : Array Slot, L.size = 7 → L.size = c.maxLocals := fun L q => q.trans hml.symm
  rw [own_ef_own_rb5]
  show G T0 (mkF m 0 #[rv a, .val (.long (5 : Int64)), .second, .val (.long (2 : Int64)), .second, .val (.long z5), .second] [])
  obtain ⟨E_a1156, F1156_o, F1156_oc, F1156_st, F1156_sc, F1156_bt, F1156_bc, F1156_ch, F1156_lst, F1156_ro, F1156_rs, F1156_rb, F1156_rch, F1156_ob, F1156_sb, F1156_bb⟩ := id OB
  obtain ⟨As, hOv⟩ := id SA
  refine hG.st (fun t q => XS.aloadN S0.here hx rfl (hb hby own_d18_0) rfl rfl (XS.lloadN S0.here hx rfl (hb hby own_d18_1) rfl (XS.aloadN S0.here hx rfl (hb hby own_d18_2) rfl rfl q))) ?_
  show G T0 (mkF m 3 #[rv a, .val (.long (5 : Int64)), .second, .val (.long (2 : Int64)), .second, .val (.long z5), .second] [(.ref a), (.long (5 : Int64)), (.ref a)])
  refine Own.Sit.getF hG S0 hx (host := "") (Or.inl (hW 162 _ rfl)) Via.refl F1156_ob rfl rfl (hb hby own_d18_3) (fun T1157 S1157 => ?_)
  refine hG.st (fun t q => XS.lsub S1157.here hx rfl (hb hby own_d18_6) rfl (XS.l2i S1157.here hx rfl (hb hby own_d18_7) rfl (XS.lloadN S1157.here hx rfl (hb hby own_d18_8) rfl (XS.aloadN S1157.here hx rfl (hb hby own_d18_9) rfl rfl q)))) ?_
  show G T1157 (mkF m 10 #[rv a, .val (.long (5 : Int64)), .second, .val (.long (2 : Int64)), .second, .val (.long z5), .second] [(.ref a), (.long (2 : Int64)), (.int 5), (.ref a)])
  refine Own.Sit.getF hG S1157 hx (host := "") (Or.inl (hW 164 _ rfl)) Via.refl F1156_sb rfl rfl (hb hby own_d18_10) (fun T1158 S1158 => ?_)
  refine hG.st (fun t q => XS.lsub S1158.here hx rfl (hb hby own_d18_13) rfl (XS.l2i S1158.here hx rfl (hb hby own_d18_14) rfl (XS.lload S1158.here hx rfl (hb hby own_d18_15) rfl (XS.aloadN S1158.here hx rfl (hb hby own_d18_17) rfl rfl q)))) ?_
  show G T1158 (mkF m 18 #[rv a, .val (.long (5 : Int64)), .second, .val (.long (2 : Int64)), .second, .val (.long z5), .second] [(.ref a), (.long z5), (.int 2), (.int 5), (.ref a)])
  refine Own.Sit.getF hG S1158 hx (host := "") (Or.inl (hW 166 _ rfl)) Via.refl F1156_bb rfl rfl (hb hby own_d18_18) (fun T1159 S1159 => ?_)
  refine hG.st (fun t q => XS.lsub S1159.here hx rfl (hb hby own_d18_21) rfl (XS.l2i S1159.here hx rfl (hb hby own_d18_22) rfl q)) ?_
  show G T1159 (mkF m 23 #[rv a, .val (.long (5 : Int64)), .second, .val (.long (2 : Int64)), .second, .val (.long z5), .second] [(.int ((z5 - (0 : Int64)).toInt32)), (.int 2), (.int 5), (.ref a)])
  have OB1160 : own_Ob Z h0 a o oc st sc bt bc ch lst ro (0 : Int32) rb rch (0 : Int64) (0 : Int64) (0 : Int64) := ⟨E_a1156, F1156_o, F1156_oc, F1156_st, F1156_sc, F1156_bt, F1156_bc, F1156_ch, F1156_lst, F1156_ro, F1156_rs, F1156_rb, F1156_rch, F1156_ob, F1156_sb, F1156_bb⟩
  refine Own.Sit.callP hG S1159 hx hEL (as := [(.int 5), (.int 2), (.int ((z5 - (0 : Int64)).toInt32))]) (hW 137 _ rfl) (hW 139 _ rfl) (hW 55 _ rfl) (hW 138 _ rfl) (hW 56 _ rfl) (hW 140 _ rfl) (by decide) E_a1156 (own_mark02 l Z a0 H a (5 : Int32) ((z5 - (0 : Int64)).toInt32) o oc st sc bt bc ch lst ro rb rch (0 : Int64) (0 : Int64) (0 : Int64) u0 u1 u2 u3 n_u0 n_u1 n_u2 n_u3 B h0 S1159.old OB1160 ⟨As, hOv⟩ N_u0 N_u1 N_u2 N_u3 ba bs g_a g_s) own_pde0dff9 rfl rfl (hz _ rfl) (rest := []) rfl (W := 0) (Own.hw0 rfl rfl) (hb hby own_d18_23) (by decide) (by decide) (by decide) (by decide) (fun v1161 vm1161 T1161 h1161 S1161 C1161 q1161 => ?_)
  obtain ⟨K1161, rfl, OB1161⟩ := q1161
  have J1161 : Own.Stp Z consts_1 vm0 h0 vm1161 h1161 [a] := ⟨K1161, C1161⟩
  have OC1161 : own_Ob Z h1161 a o oc st sc bt bc ch lst (5 : Int32) (2 : Int32) ((z5 - (0 : Int64)).toInt32) ((rch + n_u0.toInt64) + n_u1.toInt64) (0 : Int64) (0 : Int64) (0 : Int64) := OB1161
  obtain ⟨E_a1162, F1162_o, F1162_oc, F1162_st, F1162_sc, F1162_bt, F1162_bc, F1162_ch, F1162_lst, F1162_ro, F1162_rs, F1162_rb, F1162_rch, F1162_ob, F1162_sb, F1162_bb⟩ := id OC1161
  show G T1161 (mkF m 26 #[rv a, .val (.long (5 : Int64)), .second, .val (.long (2 : Int64)), .second, .val (.long z5), .second] [])
  exact Own.Sit.ret0 hR S1161 hx hret (hb hby own_d18_26) (by decide) (by decide) ⟨J1161.1, rfl, ⟨E_a1162, F1162_o, F1162_oc, F1162_st, F1162_sc, F1162_bt, F1162_bc, F1162_ch, F1162_lst, F1162_ro, F1162_rs, F1162_rb, F1162_rch, F1162_ob, F1162_sb, F1162_bb⟩⟩
theorem own_pn0e7e06 : plainFor (⟨"com/example/scholiast/scholiast/XmlEvents", "releasedSize", "()J"⟩ : MethodName) = true := by first | exact plainFor_of_name (by first | (simp [plainName, overriddenIn]; done) | decide +kernel) | decide +kernel
theorem own_d19_0 : decode prog_53_method_14_code 0 = .ok (.aload_n 0, 1) := by decide +kernel
theorem own_d19_1 : decode prog_53_method_14_code 1 = .ok (.getfield 45, 3) := by decide +kernel
theorem own_d19_4 : decode prog_53_method_14_code 4 = .ok (.aload_n 0, 1) := by decide +kernel
theorem own_d19_5 : decode prog_53_method_14_code 5 = .ok (.getfield 48, 3) := by decide +kernel
theorem own_d19_8 : decode prog_53_method_14_code 8 = .ok (.iadd, 1) := by decide +kernel
theorem own_d19_9 : decode prog_53_method_14_code 9 = .ok (.i2l, 1) := by decide +kernel
theorem own_d19_10 : decode prog_53_method_14_code 10 = .ok (.aload_n 0, 1) := by decide +kernel
theorem own_d19_11 : decode prog_53_method_14_code 11 = .ok (.getfield 51, 3) := by decide +kernel
theorem own_d19_14 : decode prog_53_method_14_code 14 = .ok (.ladd, 1) := by decide +kernel
theorem own_d19_15 : decode prog_53_method_14_code 15 = .ok (.lreturn, 1) := by decide +kernel
theorem own_ef_own_rsz (m : MethodId) (a : Addr) : entryFrame m #[(.ref a)] 1 = mkF m 0 #[rv a] [] := by first | (simp [entryFrame, mkF, argsToLocals, Value.category]; done) | rfl
set_option maxRecDepth 65536 in
set_option maxHeartbeats 40000000 in
theorem own_rsz (l : Launch) (Z : State) (a0 : Array Value) (H : own_Wld Z a0) {cw : List Jvm.Cond} (a : Addr) (o : Addr) (oc : Int32) (st : Addr) (sc : Int32) (bt : Addr) (bc : Int32) (ch : Int64) (lst : Int32) (ro : Int32) (rs : Int32) (rb : Int32) (rch : Int64) (ob : Int64) (sb : Int64) (bb : Int64) (h0 : Heap) (O0 : Ext Z.heap h0) (OB : own_Ob Z h0 a o oc st sc bt bc ch lst ro rs rb rch ob sb bb) :
    Own.Con l Z consts_1 (⟨"com/example/scholiast/scholiast/XmlEvents", "releasedSize", "()J"⟩ : MethodName) prog_53_method_14_code 1 (some .long) cw ({ frames := 0, cells := 0, slots := 0, locals := 0 } : Room) #[(.ref a)] h0 (fun v h => Keep h0 h [] ∧ v = some (.long ((ro + rb).toInt64 + rch))) := by
  have hw := H.1
  have hW := fun (i : Nat) (w : Jvm.Cond) (e : tables_1[i]? = some w) => hw w (List.mem_of_getElem? e)
  have hCm := H.2.1
  have hSi := H.2.2.1
  have hEL := H.2.2.2
  have hWs : ∀ d ∈ StrChars.Road.words, d.before a0 Z = true := fun d hd => hw d (own_wbackV d hd)
  have hWl : ∀ d ∈ StrChars.Road.wordsLen, d.before a0 Z = true := fun d hd => hw d (own_wlenW d hd)
  have hSA : ∀ d ∈ Bundle.stringAtoms, d.before a0 Z = true := fun d hd => hw d (own_wSA d hd)
  refine Own.Con.of own_pn0e7e06 hEL O0 ?_
  intro p e s m below meth c T0 G vm0 hx hby hml hret hnm hG hR S0
  have hz : ∀ L : Array Slot, L.size = 1 → L.size = c.maxLocals := fun L q => q.trans hml.symm
  rw [own_ef_own_rsz]
  show G T0 (mkF m 0 #[rv a] [])
  obtain ⟨E_a1163, F1163_o, F1163_oc, F1163_st, F1163_sc, F1163_bt, F1163_bc, F1163_ch, F1163_lst, F1163_ro, F1163_rs, F1163_rb, F1163_rch, F1163_ob, F1163_sb, F1163_bb⟩ := id OB
  refine hG.st (fun t q => XS.aloadN S0.here hx rfl (hb hby own_d19_0) rfl rfl q) ?_
  show G T0 (mkF m 1 #[rv a] [(.ref a)])
  refine Own.Sit.getF hG S0 hx (host := "") (Or.inl (hW 145 _ rfl)) Via.refl F1163_ro rfl rfl (hb hby own_d19_1) (fun T1164 S1164 => ?_)
  refine hG.st (fun t q => XS.aloadN S1164.here hx rfl (hb hby own_d19_4) rfl rfl q) ?_
  show G T1164 (mkF m 5 #[rv a] [(.ref a), (.int ro)])
  refine Own.Sit.getF hG S1164 hx (host := "") (Or.inl (hW 147 _ rfl)) Via.refl F1163_rb rfl rfl (hb hby own_d19_5) (fun T1165 S1165 => ?_)
  refine hG.st (fun t q => XS.iadd S1165.here hx rfl (hb hby own_d19_8) rfl (XS.i2l S1165.here hx rfl (hb hby own_d19_9) rfl (XS.aloadN S1165.here hx rfl (hb hby own_d19_10) rfl rfl q))) ?_
  show G T1165 (mkF m 11 #[rv a] [(.ref a), (.long ((ro + rb).toInt64))])
  refine Own.Sit.getF hG S1165 hx (host := "") (Or.inl (hW 143 _ rfl)) Via.refl F1163_rch rfl rfl (hb hby own_d19_11) (fun T1166 S1166 => ?_)
  refine hG.st (fun t q => XS.ladd S1166.here hx rfl (hb hby own_d19_14) rfl q) ?_
  show G T1166 (mkF m 15 #[rv a] [(.long (((ro + rb).toInt64) + rch))])
  exact Own.Sit.retO hR S1166 hx hret rfl (Or.inr (Or.inl ⟨rfl, rfl, _, rfl⟩)) (hb hby own_d19_15) (by decide) (by decide) ⟨(Keep.refl _ _), rfl⟩
theorem own_pn92b494 : plainFor x = true := by first | exact plainFor_of_name (by first | (simp [plainName, overriddenIn]; done) | decide +kernel) | decide +kernel
theorem own_pdb570d9 : parseMethodDescriptor "(I)Ljava/lang/String;" = some ⟨[.int], some (.object "java/lang/String")⟩ := by decide +kernel
theorem own_sv1170 {z0 : Int32} {z1 : Int32} {z2 : Int32} {z3 : Int32} {z4 : Int32} {z5 : Int32} {z6 : Int32} {z7 : Int32} {z8 : Int32} {z9 : Addr} {v : Value} (h : v.isRef = true) : storeLocals #[iv z0, iv z1, iv z2, iv z3, iv z4, iv z5, iv z6, iv z7, iv z8, rv z9, .unset, .unset, .unset, .unset, .unset, .unset, .unset, .unset, .unset, .unset, .unset, .unset] 10 v = some #[iv z0, iv z1, iv z2, iv z3, iv z4, iv z5, iv z6, iv z7, iv z8, rv z9, .val v, .unset, .unset, .unset, .unset, .unset, .unset, .unset, .unset, .unset, .unset, .unset] := by
  rcases ref_cases h with rfl | ⟨a, rfl⟩ <;> rfl
theorem own_sv1172 {z0 : Int32} {z1 : Int32} {z2 : Int32} {z3 : Int32} {z4 : Int32} {z5 : Int32} {z6 : Int32} {z7 : Int32} {z8 : Int32} {z9 : Addr} {z10 : Value} {v : Value} (h : v.isRef = true) : storeLocals #[iv z0, iv z1, iv z2, iv z3, iv z4, iv z5, iv z6, iv z7, iv z8, rv z9, .val z10, .unset, .unset, .unset, .unset, .unset, .unset, .unset, .unset, .unset, .unset, .unset] 11 v = some #[iv z0, iv z1, iv z2, iv z3, iv z4, iv z5, iv z6, iv z7, iv z8, rv z9, .val z10, .val v, .unset, .unset, .unset, .unset, .unset, .unset, .unset, .unset, .unset, .unset] := by
  rcases ref_cases h with rfl | ⟨a, rfl⟩ <;> rfl
theorem own_sv1174 {z0 : Int32} {z1 : Int32} {z2 : Int32} {z3 : Int32} {z4 : Int32} {z5 : Int32} {z6 : Int32} {z7 : Int32} {z8 : Int32} {z9 : Addr} {z10 : Value} {z11 : Value} {v : Value} (h : v.isRef = true) : storeLocals #[iv z0, iv z1, iv z2, iv z3, iv z4, iv z5, iv z6, iv z7, iv z8, rv z9, .val z10, .val z11, .unset, .unset, .unset, .unset, .unset, .unset, .unset, .unset, .unset, .unset] 12 v = some #[iv z0, iv z1, iv z2, iv z3, iv z4, iv z5, iv z6, iv z7, iv z8, rv z9, .val z10, .val z11, .val v, .unset, .unset, .unset, .unset, .unset, .unset, .unset, .unset, .unset] := by
  rcases ref_cases h with rfl | ⟨a, rfl⟩ <;> rfl
theorem own_sv1176 {z0 : Int32} {z1 : Int32} {z2 : Int32} {z3 : Int32} {z4 : Int32} {z5 : Int32} {z6 : Int32} {z7 : Int32} {z8 : Int32} {z9 : Addr} {z10 : Value} {z11 : Value} {z12 : Value} {v : Value} (h : v.isRef = true) : storeLocals #[iv z0, iv z1, iv z2, iv z3, iv z4, iv z5, iv z6, iv z7, iv z8, rv z9, .val z10, .val z11, .val z12, .unset, .unset, .unset, .unset, .unset, .unset, .unset, .unset, .unset] 13 v = some #[iv z0, iv z1, iv z2, iv z3, iv z4, iv z5, iv z6, iv z7, iv z8, rv z9, .val z10, .val z11, .val z12, .val v, .unset, .unset, .unset, .unset, .unset, .unset, .unset, .unset] := by
  rcases ref_cases h with rfl | ⟨a, rfl⟩ <;> rfl
theorem own_pdc0fb6d : parseMethodDescriptor "(I)J" = some ⟨[.int], some .long⟩ := by decide +kernel
theorem own_pd62febe : parseMethodDescriptor "()V" = some ⟨[], none⟩ := by decide +kernel
theorem own_pd1c8364 : parseMethodDescriptor "(Ljava/lang/String;Ljava/lang/String;)V" = some ⟨[(.object "java/lang/String"), (.object "java/lang/String")], none⟩ := by decide +kernel
theorem own_pd217456 : parseMethodDescriptor "()J" = some ⟨[], some .long⟩ := by decide +kernel
theorem own_fina0 (n0 n1 n2 n3 l6 : Int32) (h6 : ¬ l6 < 0 ∧ l6 < 8) : (((0 : Int32) + (0 : Int32)).toInt64 + (0 : Int64)) = (0 : Int64) := by
  rw [show ((0 : Int32) + (0 : Int32)).toInt64 = (0 : Int64) from rfl]
  generalize n0.toInt64 = A; generalize n1.toInt64 = B; generalize n2.toInt64 = C; generalize n3.toInt64 = D; generalize l6.toInt64 = P; grind
theorem own_finb0 (n0 n1 n2 n3 l6 : Int32) (h6 : ¬ l6 < 0 ∧ l6 < 8) : (((6 : Int32) + ((0 : Int32) + l6)).toInt64 + (((((0 : Int64) + n0.toInt64) + n1.toInt64) + n2.toInt64) + n3.toInt64)) = ((((6 : Int64) + (l6.toInt64)) + (n0.toInt64 + n1.toInt64)) + (n2.toInt64 + n3.toInt64)) := by
  rw [own_add (6 : Int32) l6 h6 (by decide), show (6 : Int32).toInt64 = (6 : Int64) from rfl]
  generalize n0.toInt64 = A; generalize n1.toInt64 = B; generalize n2.toInt64 = C; generalize n3.toInt64 = D; generalize l6.toInt64 = P; grind
theorem own_pdb01bb8 : parseMethodDescriptor "(JJJ)V" = some ⟨[.long, .long, .long], none⟩ := by decide +kernel
theorem own_fina1 (n0 n1 n2 n3 l6 : Int32) (h6 : ¬ l6 < 0 ∧ l6 < 8) : (((3 : Int32) + (0 : Int32)).toInt64 + (((0 : Int64) + n0.toInt64) + n1.toInt64)) = ((3 : Int64) + (n0.toInt64 + n1.toInt64)) := by
  rw [show ((3 : Int32) + (0 : Int32)).toInt64 = (3 : Int64) from rfl]
  generalize n0.toInt64 = A; generalize n1.toInt64 = B; generalize n2.toInt64 = C; generalize n3.toInt64 = D; generalize l6.toInt64 = P; grind
theorem own_finb1 (n0 n1 n2 n3 l6 : Int32) (h6 : ¬ l6 < 0 ∧ l6 < 8) : (((6 : Int32) + ((0 : Int32) + l6)).toInt64 + (((((0 : Int64) + n0.toInt64) + n1.toInt64) + n2.toInt64) + n3.toInt64)) = ((((6 : Int64) + (l6.toInt64)) + (n0.toInt64 + n1.toInt64)) + (n2.toInt64 + n3.toInt64)) := by
  rw [own_add (6 : Int32) l6 h6 (by decide), show (6 : Int32).toInt64 = (6 : Int64) from rfl]
  generalize n0.toInt64 = A; generalize n1.toInt64 = B; generalize n2.toInt64 = C; generalize n3.toInt64 = D; generalize l6.toInt64 = P; grind
theorem own_fina2 (n0 n1 n2 n3 l6 : Int32) (h6 : ¬ l6 < 0 ∧ l6 < 8) : (((5 : Int32) + (((l6.toInt64) - (0 : Int64)).toInt32)).toInt64 + (((0 : Int64) + n0.toInt64) + n1.toInt64)) = (((5 : Int64) + (l6.toInt64)) + (n0.toInt64 + n1.toInt64)) := by
  rw [own_bk, own_add (5 : Int32) l6 h6 (by decide), show (5 : Int32).toInt64 = (5 : Int64) from rfl]
  generalize n0.toInt64 = A; generalize n1.toInt64 = B; generalize n2.toInt64 = C; generalize n3.toInt64 = D; generalize l6.toInt64 = P; grind
theorem own_finb2 (n0 n1 n2 n3 l6 : Int32) (h6 : ¬ l6 < 0 ∧ l6 < 8) : (((6 : Int32) + ((0 : Int32) + l6)).toInt64 + (((((0 : Int64) + n0.toInt64) + n1.toInt64) + n2.toInt64) + n3.toInt64)) = ((((6 : Int64) + (l6.toInt64)) + (n0.toInt64 + n1.toInt64)) + (n2.toInt64 + n3.toInt64)) := by
  rw [own_add (6 : Int32) l6 h6 (by decide), show (6 : Int32).toInt64 = (6 : Int64) from rfl]
  generalize n0.toInt64 = A; generalize n1.toInt64 = B; generalize n2.toInt64 = C; generalize n3.toInt64 = D; generalize l6.toInt64 = P; grind
theorem own_fina3 (n0 n1 n2 n3 l6 : Int32) (h6 : ¬ l6 < 0 ∧ l6 < 8) : (((6 : Int32) + ((0 : Int32) + l6)).toInt64 + (((((0 : Int64) + n0.toInt64) + n1.toInt64) + n2.toInt64) + n3.toInt64)) = ((((6 : Int64) + (l6.toInt64)) + (n0.toInt64 + n1.toInt64)) + (n2.toInt64 + n3.toInt64)) := by
  rw [own_add (6 : Int32) l6 h6 (by decide), show (6 : Int32).toInt64 = (6 : Int64) from rfl]
  generalize n0.toInt64 = A; generalize n1.toInt64 = B; generalize n2.toInt64 = C; generalize n3.toInt64 = D; generalize l6.toInt64 = P; grind
theorem own_finb3 (n0 n1 n2 n3 l6 : Int32) (h6 : ¬ l6 < 0 ∧ l6 < 8) : (((6 : Int32) + ((0 : Int32) + l6)).toInt64 + (((((0 : Int64) + n0.toInt64) + n1.toInt64) + n2.toInt64) + n3.toInt64)) = ((((6 : Int64) + (l6.toInt64)) + (n0.toInt64 + n1.toInt64)) + (n2.toInt64 + n3.toInt64)) := by
  rw [own_add (6 : Int32) l6 h6 (by decide), show (6 : Int32).toInt64 = (6 : Int64) from rfl]
  generalize n0.toInt64 = A; generalize n1.toInt64 = B; generalize n2.toInt64 = C; generalize n3.toInt64 = D; generalize l6.toInt64 = P; grind
theorem own_ef_own_law (m : MethodId) (q0 : Int32) (q1 : Int32) (q2 : Int32) (q3 : Int32) (q4 : Int32) (q5 : Int32) : entryFrame m #[(.int q0), (.int q1), (.int q2), (.int q3), (.int q4), (.int q5)] maxLocals = mkF m 0 #[iv q0, iv q1, iv q2, iv q3, iv q4, iv q5, .unset, .unset, .unset, .unset, .unset, .unset, .unset, .unset, .unset, .unset, .unset, .unset, .unset, .unset, .unset, .unset] [] := by first | (simp [entryFrame, mkF, argsToLocals, Value.category, maxLocals]; done) | rfl
set_option maxRecDepth 65536 in
set_option maxHeartbeats 40000000 in
theorem own_law (l : Launch) (Z : State) (a0 : Array Value) (H : own_Wld Z a0) {cw : List Jvm.Cond} (q0 : Int32) (q1 : Int32) (q2 : Int32) (q3 : Int32) (q4 : Int32) (q5 : Int32) (h0 : Heap) (O0 : Ext Z.heap h0) :
    Own.Con l Z consts_1 x code maxLocals ret cw room_1 #[(.int q0), (.int q1), (.int q2), (.int q3), (.int q4), (.int q5)] h0 (fun v h => Keep h0 h [] ∧ v = some (.int 1)) := by
  have hw := H.1
  have hW := fun (i : Nat) (w : Jvm.Cond) (e : tables_1[i]? = some w) => hw w (List.mem_of_getElem? e)
  have hCm := H.2.1
  have hSi := H.2.2.1
  have hEL := H.2.2.2
  have hWs : ∀ d ∈ StrChars.Road.words, d.before a0 Z = true := fun d hd => hw d (own_wbackV d hd)
  have hWl : ∀ d ∈ StrChars.Road.wordsLen, d.before a0 Z = true := fun d hd => hw d (own_wlenW d hd)
  have hSA : ∀ d ∈ Bundle.stringAtoms, d.before a0 Z = true := fun d hd => hw d (own_wSA d hd)
  refine Own.Con.of own_pn92b494 hEL O0 ?_
  intro p e s m below meth c T0 G vm0 hx hby hml hret hnm hG hR S0
  have hz : ∀ L : Array Slot, L.size = maxLocals → L.size = c.maxLocals := fun L q => q.trans hml.symm
  rw [own_ef_own_law]
  show G T0 (mkF m 0 #[iv q0, iv q1, iv q2, iv q3, iv q4, iv q5, .unset, .unset, .unset, .unset, .unset, .unset, .unset, .unset, .unset, .unset, .unset, .unset, .unset, .unset, .unset, .unset] [])
  refine hG.st (fun t q => XS.iload S0.here hx rfl (hb hby at_0) rfl (XS.bipush S0.here hx rfl (hb hby at_2) (XS.iand S0.here hx rfl (hb hby at_4) rfl (XS.istore S0.here hx rfl (hb hby at_5) rfl (l' := #[iv q0, iv q1, iv q2, iv q3, iv q4, iv q5, iv (q4 &&& (7 : Int32)), .unset, .unset, .unset, .unset, .unset, .unset, .unset, .unset, .unset, .unset, .unset, .unset, .unset, .unset, .unset]) rfl q)))) ?_
  show G T0 (mkF m 7 #[iv q0, iv q1, iv q2, iv q3, iv q4, iv q5, iv (q4 &&& (7 : Int32)), .unset, .unset, .unset, .unset, .unset, .unset, .unset, .unset, .unset, .unset, .unset, .unset, .unset, .unset, .unset] [])
  obtain ⟨l6, el6⟩ : ∃ z : Int32, z = (q4 &&& (7 : Int32)) := ⟨_, rfl⟩
  rw [← el6]
  show G T0 (mkF m 7 #[iv q0, iv q1, iv q2, iv q3, iv q4, iv q5, iv l6, .unset, .unset, .unset, .unset, .unset, .unset, .unset, .unset, .unset, .unset, .unset, .unset, .unset, .unset, .unset] [])
  have hl6 : ¬ l6 < 0 ∧ l6 < 8 := el6 ▸ own_and7 _
  refine hG.st (fun t q => XS.iload S0.here hx rfl (hb hby at_7) rfl (XS.iconst S0.here hx rfl (hb hby at_9) (XS.iand S0.here hx rfl (hb hby at_10) rfl (XS.istore S0.here hx rfl (hb hby at_11) rfl (l' := #[iv q0, iv q1, iv q2, iv q3, iv q4, iv q5, iv l6, iv (q5 &&& (3 : Int32)), .unset, .unset, .unset, .unset, .unset, .unset, .unset, .unset, .unset, .unset, .unset, .unset, .unset, .unset]) rfl q)))) ?_
  show G T0 (mkF m 13 #[iv q0, iv q1, iv q2, iv q3, iv q4, iv q5, iv l6, iv (q5 &&& (3 : Int32)), .unset, .unset, .unset, .unset, .unset, .unset, .unset, .unset, .unset, .unset, .unset, .unset, .unset, .unset] [])
  obtain ⟨r7, er7⟩ : ∃ z : Int32, z = (q5 &&& (3 : Int32)) := ⟨_, rfl⟩
  rw [← er7]
  show G T0 (mkF m 13 #[iv q0, iv q1, iv q2, iv q3, iv q4, iv q5, iv l6, iv r7, .unset, .unset, .unset, .unset, .unset, .unset, .unset, .unset, .unset, .unset, .unset, .unset, .unset, .unset] [])
  have JN : ∀ (vm1167 : Vm) (T1167 : State) (h1167 : Heap) (f8 : Int32), Own.Sit p l e room_1 s m #[(.int q0), (.int q1), (.int q2), (.int q3), (.int q4), (.int q5)] below meth c Z consts_1 "com/example/scholiast/scholiast/XmlEventsReleasedSizePinLaw" vm1167 T1167 h1167 0 0 → Own.Stp Z consts_1 vm0 h0 vm1167 h1167 [] → G T1167 (mkF m 27 #[iv q0, iv q1, iv q2, iv q3, iv q4, iv q5, iv l6, iv r7, .unset, .unset, .unset, .unset, .unset, .unset, .unset, .unset, .unset, .unset, .unset, .unset, .unset, .unset] [(.int f8)]) := by
    intro vm1167 T1167 h1167 f8 S1167 J1167 
    show G T1167 (mkF m 27 #[iv q0, iv q1, iv q2, iv q3, iv q4, iv q5, iv l6, iv r7, .unset, .unset, .unset, .unset, .unset, .unset, .unset, .unset, .unset, .unset, .unset, .unset, .unset, .unset] [(.int f8)])
    refine hG.st (fun t q => XS.istore S1167.here hx rfl (hb hby at_27) rfl (l' := #[iv q0, iv q1, iv q2, iv q3, iv q4, iv q5, iv l6, iv r7, iv f8, .unset, .unset, .unset, .unset, .unset, .unset, .unset, .unset, .unset, .unset, .unset, .unset, .unset]) rfl (XS.bipush S1167.here hx rfl (hb hby at_29) q)) ?_
    show G T1167 (mkF m 31 #[iv q0, iv q1, iv q2, iv q3, iv q4, iv q5, iv l6, iv r7, iv f8, .unset, .unset, .unset, .unset, .unset, .unset, .unset, .unset, .unset, .unset, .unset, .unset, .unset] [(.int 8)])
    refine Own.Sit.newP hG S1167 hx (aty := .byte) (hW 0 _ rfl) rfl (hb hby at_31) rfl (by decide) (cap := 8) (by decide) (by decide) (by decide) (by decide) (fun T1168 h1168 x1168 k1168 g_x1168 S1168 J1168 Sf1168 (V1168 : Arv Z h1168 x1168 k1168 .byte (8 : Int32) [(.int 0), (.int 0), (.int 0), (.int 0), (.int 0), (.int 0), (.int 0), (.int 0)] (.int 0)) => ?_)
    have lt_x1168 := V1168.lt
    have ga_x1168 : Z.heap.size ≤ x1168 := Nat.le_trans S1167.le (Nat.le_of_eq g_x1168.symm)
    refine hG.st (fun t q => XS.astore S1168.here hx rfl (hb hby at_33) rfl rfl (l' := #[iv q0, iv q1, iv q2, iv q3, iv q4, iv q5, iv l6, iv r7, iv f8, rv x1168, .unset, .unset, .unset, .unset, .unset, .unset, .unset, .unset, .unset, .unset, .unset, .unset]) rfl (XS.iloadN S1168.here hx rfl (hb hby at_35) rfl q)) ?_
    show G T1168 (mkF m 36 #[iv q0, iv q1, iv q2, iv q3, iv q4, iv q5, iv l6, iv r7, iv f8, rv x1168, .unset, .unset, .unset, .unset, .unset, .unset, .unset, .unset, .unset, .unset, .unset, .unset] [(.int q0)])
    refine Own.Sit.callS hG S1168 hx hEL (as := [(.int q0)]) (hW 1 _ rfl) (hW 2 _ rfl) (hW 3 _ rfl) (hW 4 _ rfl) (by decide) (own_str l Z a0 H q0 h1168 S1168.old) own_pdb570d9 rfl rfl (hz _ rfl) (rest := []) rfl (W := 0) (Own.hw0 rfl rfl) (hb hby at_36) (by decide) (by decide) (by decide) (by decide) (fun v1169 vm1169 T1169 h1169 S1169 C1169 q1169 => ?_)
    obtain ⟨K1169, w1169, rfl, N1169⟩ := q1169
    have J1169 : Own.Stp Z consts_1 vm1167 h1168 vm1169 h1169 [] := ⟨K1169, C1169⟩
    refine hG.st (fun t q => XS.astore S1169.here hx rfl (hb hby at_39) rfl (own_NS.ref N1169) (l' := #[iv q0, iv q1, iv q2, iv q3, iv q4, iv q5, iv l6, iv r7, iv f8, rv x1168, .val w1169, .unset, .unset, .unset, .unset, .unset, .unset, .unset, .unset, .unset, .unset, .unset]) (own_sv1170 (own_NS.ref N1169)) (XS.iloadN S1169.here hx rfl (hb hby at_41) rfl q)) ?_
    show G T1169 (mkF m 42 #[iv q0, iv q1, iv q2, iv q3, iv q4, iv q5, iv l6, iv r7, iv f8, rv x1168, .val w1169, .unset, .unset, .unset, .unset, .unset, .unset, .unset, .unset, .unset, .unset, .unset] [(.int q1)])
    refine Own.Sit.callS hG S1169 hx hEL (as := [(.int q1)]) (hW 1 _ rfl) (hW 2 _ rfl) (hW 3 _ rfl) (hW 4 _ rfl) (by decide) (own_str l Z a0 H q1 h1169 S1169.old) own_pdb570d9 rfl rfl (hz _ rfl) (rest := []) rfl (W := 0) (Own.hw0 rfl rfl) (hb hby at_42) (by decide) (by decide) (by decide) (by decide) (fun v1171 vm1171 T1171 h1171 S1171 C1171 q1171 => ?_)
    obtain ⟨K1171, w1171, rfl, N1171⟩ := q1171
    have J1171 : Own.Stp Z consts_1 vm1169 h1169 vm1171 h1171 [] := ⟨K1171, C1171⟩
    refine hG.st (fun t q => XS.astore S1171.here hx rfl (hb hby at_45) rfl (own_NS.ref N1171) (l' := #[iv q0, iv q1, iv q2, iv q3, iv q4, iv q5, iv l6, iv r7, iv f8, rv x1168, .val w1169, .val w1171, .unset, .unset, .unset, .unset, .unset, .unset, .unset, .unset, .unset, .unset]) (own_sv1172 (own_NS.ref N1171)) (XS.iloadN S1171.here hx rfl (hb hby at_47) rfl q)) ?_
    show G T1171 (mkF m 48 #[iv q0, iv q1, iv q2, iv q3, iv q4, iv q5, iv l6, iv r7, iv f8, rv x1168, .val w1169, .val w1171, .unset, .unset, .unset, .unset, .unset, .unset, .unset, .unset, .unset, .unset] [(.int q2)])
    refine Own.Sit.callS hG S1171 hx hEL (as := [(.int q2)]) (hW 1 _ rfl) (hW 2 _ rfl) (hW 3 _ rfl) (hW 4 _ rfl) (by decide) (own_str l Z a0 H q2 h1171 S1171.old) own_pdb570d9 rfl rfl (hz _ rfl) (rest := []) rfl (W := 0) (Own.hw0 rfl rfl) (hb hby at_48) (by decide) (by decide) (by decide) (by decide) (fun v1173 vm1173 T1173 h1173 S1173 C1173 q1173 => ?_)
    obtain ⟨K1173, w1173, rfl, N1173⟩ := q1173
    have J1173 : Own.Stp Z consts_1 vm1171 h1171 vm1173 h1173 [] := ⟨K1173, C1173⟩
    refine hG.st (fun t q => XS.astore S1173.here hx rfl (hb hby at_51) rfl (own_NS.ref N1173) (l' := #[iv q0, iv q1, iv q2, iv q3, iv q4, iv q5, iv l6, iv r7, iv f8, rv x1168, .val w1169, .val w1171, .val w1173, .unset, .unset, .unset, .unset, .unset, .unset, .unset, .unset, .unset]) (own_sv1174 (own_NS.ref N1173)) (XS.iloadN S1173.here hx rfl (hb hby at_53) rfl q)) ?_
    show G T1173 (mkF m 54 #[iv q0, iv q1, iv q2, iv q3, iv q4, iv q5, iv l6, iv r7, iv f8, rv x1168, .val w1169, .val w1171, .val w1173, .unset, .unset, .unset, .unset, .unset, .unset, .unset, .unset, .unset] [(.int q3)])
    refine Own.Sit.callS hG S1173 hx hEL (as := [(.int q3)]) (hW 1 _ rfl) (hW 2 _ rfl) (hW 3 _ rfl) (hW 4 _ rfl) (by decide) (own_str l Z a0 H q3 h1173 S1173.old) own_pdb570d9 rfl rfl (hz _ rfl) (rest := []) rfl (W := 0) (Own.hw0 rfl rfl) (hb hby at_54) (by decide) (by decide) (by decide) (by decide) (fun v1175 vm1175 T1175 h1175 S1175 C1175 q1175 => ?_)
    obtain ⟨K1175, w1175, rfl, N1175⟩ := q1175
    have J1175 : Own.Stp Z consts_1 vm1173 h1173 vm1175 h1175 [] := ⟨K1175, C1175⟩
    refine hG.st (fun t q => XS.astore S1175.here hx rfl (hb hby at_57) rfl (own_NS.ref N1175) (l' := #[iv q0, iv q1, iv q2, iv q3, iv q4, iv q5, iv l6, iv r7, iv f8, rv x1168, .val w1169, .val w1171, .val w1173, .val w1175, .unset, .unset, .unset, .unset, .unset, .unset, .unset, .unset]) (own_sv1176 (own_NS.ref N1175)) (XS.iloadN S1175.here hx rfl (hb hby at_59) rfl q)) ?_
    show G T1175 (mkF m 60 #[iv q0, iv q1, iv q2, iv q3, iv q4, iv q5, iv l6, iv r7, iv f8, rv x1168, .val w1169, .val w1171, .val w1173, .val w1175, .unset, .unset, .unset, .unset, .unset, .unset, .unset, .unset] [(.int q0)])
    refine Own.Sit.callS hG S1175 hx hEL (as := [(.int q0)]) (hW 51 _ rfl) (hW 52 _ rfl) (hW 3 _ rfl) (hW 53 _ rfl) (by decide) (own_ln l Z a0 H q0 h1175 S1175.old) own_pdc0fb6d rfl rfl (hz _ rfl) (rest := []) rfl (W := 0) (Own.hw0 rfl rfl) (hb hby at_60) (by decide) (by decide) (by decide) (by decide) (fun v1177 vm1177 T1177 h1177 S1177 C1177 q1177 => ?_)
    obtain ⟨K1177, rfl⟩ := q1177
    have J1177 : Own.Stp Z consts_1 vm1175 h1175 vm1177 h1177 [] := ⟨K1177, C1177⟩
    refine hG.st (fun t q => XS.iloadN S1177.here hx rfl (hb hby at_63) rfl q) ?_
    show G T1177 (mkF m 64 #[iv q0, iv q1, iv q2, iv q3, iv q4, iv q5, iv l6, iv r7, iv f8, rv x1168, .val w1169, .val w1171, .val w1173, .val w1175, .unset, .unset, .unset, .unset, .unset, .unset, .unset, .unset] [(.int q1), (.long (own_sl q0).toInt64)])
    refine Own.Sit.callS hG S1177 hx hEL (as := [(.int q1)]) (hW 51 _ rfl) (hW 52 _ rfl) (hW 3 _ rfl) (hW 53 _ rfl) (by decide) (own_ln l Z a0 H q1 h1177 S1177.old) own_pdc0fb6d rfl rfl (hz _ rfl) (rest := [(.long (own_sl q0).toInt64)]) rfl (W := 2) (Own.hw0 rfl rfl) (hb hby at_64) (by decide) (by decide) (by decide) (by decide) (fun v1178 vm1178 T1178 h1178 S1178 C1178 q1178 => ?_)
    obtain ⟨K1178, rfl⟩ := q1178
    have J1178 : Own.Stp Z consts_1 vm1177 h1177 vm1178 h1178 [] := ⟨K1178, C1178⟩
    refine hG.st (fun t q => XS.ladd S1178.here hx rfl (hb hby at_67) rfl (XS.lstore S1178.here hx rfl (hb hby at_68) rfl (l' := #[iv q0, iv q1, iv q2, iv q3, iv q4, iv q5, iv l6, iv r7, iv f8, rv x1168, .val w1169, .val w1171, .val w1173, .val w1175, .val (.long ((own_sl q0).toInt64 + (own_sl q1).toInt64)), .second, .unset, .unset, .unset, .unset, .unset, .unset]) rfl q)) ?_
    show G T1178 (mkF m 70 #[iv q0, iv q1, iv q2, iv q3, iv q4, iv q5, iv l6, iv r7, iv f8, rv x1168, .val w1169, .val w1171, .val w1173, .val w1175, .val (.long ((own_sl q0).toInt64 + (own_sl q1).toInt64)), .second, .unset, .unset, .unset, .unset, .unset, .unset] [])
    obtain ⟨v14, ev14⟩ : ∃ z : Int64, z = ((own_sl q0).toInt64 + (own_sl q1).toInt64) := ⟨_, rfl⟩
    rw [← ev14]
    show G T1178 (mkF m 70 #[iv q0, iv q1, iv q2, iv q3, iv q4, iv q5, iv l6, iv r7, iv f8, rv x1168, .val w1169, .val w1171, .val w1173, .val w1175, .val (.long v14), .second, .unset, .unset, .unset, .unset, .unset, .unset] [])
    refine hG.st (fun t q => XS.iloadN S1178.here hx rfl (hb hby at_70) rfl q) ?_
    show G T1178 (mkF m 71 #[iv q0, iv q1, iv q2, iv q3, iv q4, iv q5, iv l6, iv r7, iv f8, rv x1168, .val w1169, .val w1171, .val w1173, .val w1175, .val (.long v14), .second, .unset, .unset, .unset, .unset, .unset, .unset] [(.int q2)])
    refine Own.Sit.callS hG S1178 hx hEL (as := [(.int q2)]) (hW 51 _ rfl) (hW 52 _ rfl) (hW 3 _ rfl) (hW 53 _ rfl) (by decide) (own_ln l Z a0 H q2 h1178 S1178.old) own_pdc0fb6d rfl rfl (hz _ rfl) (rest := []) rfl (W := 0) (Own.hw0 rfl rfl) (hb hby at_71) (by decide) (by decide) (by decide) (by decide) (fun v1179 vm1179 T1179 h1179 S1179 C1179 q1179 => ?_)
    obtain ⟨K1179, rfl⟩ := q1179
    have J1179 : Own.Stp Z consts_1 vm1178 h1178 vm1179 h1179 [] := ⟨K1179, C1179⟩
    refine hG.st (fun t q => XS.iloadN S1179.here hx rfl (hb hby at_74) rfl q) ?_
    show G T1179 (mkF m 75 #[iv q0, iv q1, iv q2, iv q3, iv q4, iv q5, iv l6, iv r7, iv f8, rv x1168, .val w1169, .val w1171, .val w1173, .val w1175, .val (.long v14), .second, .unset, .unset, .unset, .unset, .unset, .unset] [(.int q3), (.long (own_sl q2).toInt64)])
    refine Own.Sit.callS hG S1179 hx hEL (as := [(.int q3)]) (hW 51 _ rfl) (hW 52 _ rfl) (hW 3 _ rfl) (hW 53 _ rfl) (by decide) (own_ln l Z a0 H q3 h1179 S1179.old) own_pdc0fb6d rfl rfl (hz _ rfl) (rest := [(.long (own_sl q2).toInt64)]) rfl (W := 2) (Own.hw0 rfl rfl) (hb hby at_75) (by decide) (by decide) (by decide) (by decide) (fun v1180 vm1180 T1180 h1180 S1180 C1180 q1180 => ?_)
    obtain ⟨K1180, rfl⟩ := q1180
    have J1180 : Own.Stp Z consts_1 vm1179 h1179 vm1180 h1180 [] := ⟨K1180, C1180⟩
    refine hG.st (fun t q => XS.ladd S1180.here hx rfl (hb hby at_78) rfl (XS.lstore S1180.here hx rfl (hb hby at_79) rfl (l' := #[iv q0, iv q1, iv q2, iv q3, iv q4, iv q5, iv l6, iv r7, iv f8, rv x1168, .val w1169, .val w1171, .val w1173, .val w1175, .val (.long v14), .second, .val (.long ((own_sl q2).toInt64 + (own_sl q3).toInt64)), .second, .unset, .unset, .unset, .unset]) rfl q)) ?_
    show G T1180 (mkF m 81 #[iv q0, iv q1, iv q2, iv q3, iv q4, iv q5, iv l6, iv r7, iv f8, rv x1168, .val w1169, .val w1171, .val w1173, .val w1175, .val (.long v14), .second, .val (.long ((own_sl q2).toInt64 + (own_sl q3).toInt64)), .second, .unset, .unset, .unset, .unset] [])
    obtain ⟨v16, ev16⟩ : ∃ z : Int64, z = ((own_sl q2).toInt64 + (own_sl q3).toInt64) := ⟨_, rfl⟩
    rw [← ev16]
    show G T1180 (mkF m 81 #[iv q0, iv q1, iv q2, iv q3, iv q4, iv q5, iv l6, iv r7, iv f8, rv x1168, .val w1169, .val w1171, .val w1173, .val w1175, .val (.long v14), .second, .val (.long v16), .second, .unset, .unset, .unset, .unset] [])
    refine Own.Sit.newO hG S1180 hx (hW 54 _ rfl) (hW 55 _ rfl) (hW 56 _ rfl) rfl (hb hby at_81) (by decide) (by decide) (fun T1181 h1181 x1181 g_x1181 S1181 J1181 Sf1181 E1181 D1181 => ?_)
    have lt_x1181 := E1181.lt
    have ga_x1181 : Z.heap.size ≤ x1181 := Nat.le_trans S1180.le (Nat.le_of_eq g_x1181.symm)
    have F1182 : Fld Z h1181 x1181 "com/example/scholiast/scholiast/XmlEvents" "ops" "[I" .null := D1181 (Or.inl (hW 63 _ rfl)) (ty := (.array .int)) (by decide)
    have F1183 : Fld Z h1181 x1181 "com/example/scholiast/scholiast/XmlEvents" "strings" "[Ljava/lang/String;" .null := D1181 (Or.inl (hW 67 _ rfl)) (ty := (.array (.object "java/lang/String"))) (by decide)
    have F1184 : Fld Z h1181 x1181 "com/example/scholiast/scholiast/XmlEvents" "bytes" "[B" .null := D1181 (Or.inl (hW 69 _ rfl)) (ty := (.array .byte)) (by decide)
    have F1185 : Fld Z h1181 x1181 "com/example/scholiast/scholiast/XmlEvents" "opCount" "I" (.int 0) := D1181 (Or.inl (hW 80 _ rfl)) (ty := .int) (by decide)
    have F1186 : Fld Z h1181 x1181 "com/example/scholiast/scholiast/XmlEvents" "lastStart" "I" (.int 0) := D1181 (Or.inl (hW 82 _ rfl)) (ty := .int) (by decide)
    have F1187 : Fld Z h1181 x1181 "com/example/scholiast/scholiast/XmlEvents" "stringCount" "I" (.int 0) := D1181 (Or.inl (hW 88 _ rfl)) (ty := .int) (by decide)
    have F1188 : Fld Z h1181 x1181 "com/example/scholiast/scholiast/XmlEvents" "stringChars" "J" (.long (0 : Int64)) := D1181 (Or.inl (hW 90 _ rfl)) (ty := .long) (by decide)
    have F1189 : Fld Z h1181 x1181 "com/example/scholiast/scholiast/XmlEvents" "byteCount" "I" (.int 0) := D1181 (Or.inl (hW 122 _ rfl)) (ty := .int) (by decide)
    have F1190 : Fld Z h1181 x1181 "com/example/scholiast/scholiast/XmlEvents" "releasedStrings" "I" (.int 0) := D1181 (Or.inl (hW 142 _ rfl)) (ty := .int) (by decide)
    have F1191 : Fld Z h1181 x1181 "com/example/scholiast/scholiast/XmlEvents" "releasedStringChars" "J" (.long (0 : Int64)) := D1181 (Or.inl (hW 144 _ rfl)) (ty := .long) (by decide)
    have F1192 : Fld Z h1181 x1181 "com/example/scholiast/scholiast/XmlEvents" "releasedOps" "I" (.int 0) := D1181 (Or.inl (hW 146 _ rfl)) (ty := .int) (by decide)
    have F1193 : Fld Z h1181 x1181 "com/example/scholiast/scholiast/XmlEvents" "releasedBytes" "I" (.int 0) := D1181 (Or.inl (hW 148 _ rfl)) (ty := .int) (by decide)
    have F1194 : Fld Z h1181 x1181 "com/example/scholiast/scholiast/XmlEvents" "opsBefore" "J" (.long (0 : Int64)) := D1181 (Or.inl (hW 163 _ rfl)) (ty := .long) (by decide)
    have F1195 : Fld Z h1181 x1181 "com/example/scholiast/scholiast/XmlEvents" "stringsBefore" "J" (.long (0 : Int64)) := D1181 (Or.inl (hW 165 _ rfl)) (ty := .long) (by decide)
    have F1196 : Fld Z h1181 x1181 "com/example/scholiast/scholiast/XmlEvents" "bytesBefore" "J" (.long (0 : Int64)) := D1181 (Or.inl (hW 167 _ rfl)) (ty := .long) (by decide)
    show G T1181 (mkF m 84 #[iv q0, iv q1, iv q2, iv q3, iv q4, iv q5, iv l6, iv r7, iv f8, rv x1168, .val w1169, .val w1171, .val w1173, .val w1175, .val (.long v14), .second, .val (.long v16), .second, .unset, .unset, .unset, .unset] [(.ref x1181)])
    obtain ⟨B, hB⟩ : ∃ B : Nat, B = x1181 := ⟨_, rfl⟩
    have J1197 : Own.Stp Z consts_1 vm1169 h1169 vm1173 h1173 [] := Own.Stp.trans J1171 J1173 (all0) all0
    have J1198 : Own.Stp Z consts_1 vm1169 h1169 vm1175 h1175 [] := Own.Stp.trans J1197 J1175 (all0) all0
    have J1199 : Own.Stp Z consts_1 vm1169 h1169 vm1177 h1177 [] := Own.Stp.trans J1198 J1177 (all0) all0
    have J1200 : Own.Stp Z consts_1 vm1169 h1169 vm1178 h1178 [] := Own.Stp.trans J1199 J1178 (all0) all0
    have J1201 : Own.Stp Z consts_1 vm1169 h1169 vm1179 h1179 [] := Own.Stp.trans J1200 J1179 (all0) all0
    have J1202 : Own.Stp Z consts_1 vm1169 h1169 vm1180 h1180 [] := Own.Stp.trans J1201 J1180 (all0) all0
    have J1203 : Own.Stp Z consts_1 vm1169 h1169 vm1180 h1181 [] := Own.Stp.trans J1202 J1181 (all0) all0
    have N1204 := (own_NS.stp N1169 J1203 all0).mono (B' := B) (Nat.le_trans J1202.1.1 (Nat.le_of_eq (g_x1181.symm.trans hB.symm)))
    have J1205 : Own.Stp Z consts_1 vm1171 h1171 vm1175 h1175 [] := Own.Stp.trans J1173 J1175 (all0) all0
    have J1206 : Own.Stp Z consts_1 vm1171 h1171 vm1177 h1177 [] := Own.Stp.trans J1205 J1177 (all0) all0
    have J1207 : Own.Stp Z consts_1 vm1171 h1171 vm1178 h1178 [] := Own.Stp.trans J1206 J1178 (all0) all0
    have J1208 : Own.Stp Z consts_1 vm1171 h1171 vm1179 h1179 [] := Own.Stp.trans J1207 J1179 (all0) all0
    have J1209 : Own.Stp Z consts_1 vm1171 h1171 vm1180 h1180 [] := Own.Stp.trans J1208 J1180 (all0) all0
    have J1210 : Own.Stp Z consts_1 vm1171 h1171 vm1180 h1181 [] := Own.Stp.trans J1209 J1181 (all0) all0
    have N1211 := (own_NS.stp N1171 J1210 all0).mono (B' := B) (Nat.le_trans J1209.1.1 (Nat.le_of_eq (g_x1181.symm.trans hB.symm)))
    have J1212 : Own.Stp Z consts_1 vm1173 h1173 vm1177 h1177 [] := Own.Stp.trans J1175 J1177 (all0) all0
    have J1213 : Own.Stp Z consts_1 vm1173 h1173 vm1178 h1178 [] := Own.Stp.trans J1212 J1178 (all0) all0
    have J1214 : Own.Stp Z consts_1 vm1173 h1173 vm1179 h1179 [] := Own.Stp.trans J1213 J1179 (all0) all0
    have J1215 : Own.Stp Z consts_1 vm1173 h1173 vm1180 h1180 [] := Own.Stp.trans J1214 J1180 (all0) all0
    have J1216 : Own.Stp Z consts_1 vm1173 h1173 vm1180 h1181 [] := Own.Stp.trans J1215 J1181 (all0) all0
    have N1217 := (own_NS.stp N1173 J1216 all0).mono (B' := B) (Nat.le_trans J1215.1.1 (Nat.le_of_eq (g_x1181.symm.trans hB.symm)))
    have J1218 : Own.Stp Z consts_1 vm1175 h1175 vm1178 h1178 [] := Own.Stp.trans J1177 J1178 (all0) all0
    have J1219 : Own.Stp Z consts_1 vm1175 h1175 vm1179 h1179 [] := Own.Stp.trans J1218 J1179 (all0) all0
    have J1220 : Own.Stp Z consts_1 vm1175 h1175 vm1180 h1180 [] := Own.Stp.trans J1219 J1180 (all0) all0
    have J1221 : Own.Stp Z consts_1 vm1175 h1175 vm1180 h1181 [] := Own.Stp.trans J1220 J1181 (all0) all0
    have N1222 := (own_NS.stp N1175 J1221 all0).mono (B' := B) (Nat.le_trans J1220.1.1 (Nat.le_of_eq (g_x1181.symm.trans hB.symm)))
    refine hG.st (fun t q => XS.dup S1181.here hx rfl (hb hby at_84) rfl rfl q) ?_
    show G T1181 (mkF m 85 #[iv q0, iv q1, iv q2, iv q3, iv q4, iv q5, iv l6, iv r7, iv f8, rv x1168, .val w1169, .val w1171, .val w1173, .val w1175, .val (.long v14), .second, .val (.long v16), .second, .unset, .unset, .unset, .unset] [(.ref x1181), (.ref x1181)])
    refine Own.Sit.callI hG S1181 hx hEL rfl (as := []) (hW 57 _ rfl) (hW 58 _ rfl) (hW 56 _ rfl) (hW 59 _ rfl) (by decide) (own_ini l Z a0 H x1181 h1181 S1181.old ga_x1181 E1181 F1182 F1185 F1183 F1187 F1184 F1189 F1188 F1186 F1192 F1190 F1193 F1191 F1194 F1195 F1196) own_pd62febe rfl rfl (hz _ rfl) (rest := [(.ref x1181)]) rfl (W := 1) (Own.hw0 rfl rfl) (hb hby at_85) (by decide) (by decide) (by decide) (by decide) (fun v1223 vm1223 T1223 h1223 S1223 C1223 q1223 => ?_)
    obtain ⟨K1223, rfl, o1223, st1223, bt1223, ko1223, ks1223, kb1223, OB1223, ⟨ol1223, Ao1223, lo1223⟩, ⟨As1223, hOv⟩, ⟨bl1223, Ab1223, lb1223⟩, uo1223, us1223, ub1223⟩ := q1223
    have J1223 : Own.Stp Z consts_1 vm1180 h1181 vm1223 h1223 [x1181] := ⟨K1223, C1223⟩
    obtain ⟨E_x11811224, F1224_o, F1224_oc, F1224_st, F1224_sc, F1224_bt, F1224_bc, F1224_ch, F1224_lst, F1224_ro, F1224_rs, F1224_rb, F1224_rch, F1224_ob, F1224_sb, F1224_bb⟩ := id OB1223
    have ga_o1223 : Z.heap.size ≤ o1223 := Nat.le_trans S1181.le uo1223
    have ga_st1223 : Z.heap.size ≤ st1223 := Nat.le_trans S1181.le us1223
    have ga_bt1223 : Z.heap.size ≤ bt1223 := Nat.le_trans S1181.le ub1223
    refine hG.st (fun t q => XS.astore S1223.here hx rfl (hb hby at_88) rfl rfl (l' := #[iv q0, iv q1, iv q2, iv q3, iv q4, iv q5, iv l6, iv r7, iv f8, rv x1168, .val w1169, .val w1171, .val w1173, .val w1175, .val (.long v14), .second, .val (.long v16), .second, rv x1181, .unset, .unset, .unset]) rfl (XS.aload S1223.here hx rfl (hb hby at_90) rfl rfl (XS.aload S1223.here hx rfl (hb hby at_92) rfl (own_NS.ref N1169) (XS.aload S1223.here hx rfl (hb hby at_94) rfl (own_NS.ref N1171) q)))) ?_
    show G T1223 (mkF m 96 #[iv q0, iv q1, iv q2, iv q3, iv q4, iv q5, iv l6, iv r7, iv f8, rv x1168, .val w1169, .val w1171, .val w1173, .val w1175, .val (.long v14), .second, .val (.long v16), .second, rv x1181, .unset, .unset, .unset] [w1171, w1169, (.ref x1181)])
    have N1225 := own_NS.stp N1204 J1223 (allS (Nat.le_trans (Nat.le_of_eq hB) (Nat.le_refl _)) all0)
    have N1226 := own_NS.stp N1211 J1223 (allS (Nat.le_trans (Nat.le_of_eq hB) (Nat.le_refl _)) all0)
    have OB1227 : own_Ob Z h1223 x1181 o1223 (0 : Int32) st1223 (0 : Int32) bt1223 (0 : Int32) (0 : Int64) (0 : Int32) (0 : Int32) (0 : Int32) (0 : Int32) (0 : Int64) (0 : Int64) (0 : Int64) (0 : Int64) := ⟨E_x11811224, F1224_o, F1224_oc, F1224_st, F1224_sc, F1224_bt, F1224_bc, F1224_ch, F1224_lst, F1224_ro, F1224_rs, F1224_rb, F1224_rch, F1224_ob, F1224_sb, F1224_bb⟩
    refine Own.Sit.callV hG S1223 hx hEL (as := [w1169, w1171]) (hW 70 _ rfl) (hW 71 _ rfl) (hW 73 _ rfl) (hW 72 _ rfl) (hW 56 _ rfl) (hW 74 _ rfl) (by decide) E_x11811224 (own_start l Z a0 H x1181 w1169 w1171 o1223 st1223 bt1223 (0 : Int32) (0 : Int64) (0 : Int32) (0 : Int32) (0 : Int32) (0 : Int32) (0 : Int64) (0 : Int64) (0 : Int64) (0 : Int64) (own_sl q0) (own_sl q1) B h1223 S1223.old OB1227 ⟨_, Ao1223, lo1223⟩ ⟨As1223, hOv⟩ rfl N1225 N1226 (Nat.le_trans (Nat.le_of_eq hB) (Nat.le_refl _)) (Nat.le_trans (Nat.le_of_eq hB) (Nat.le_trans (Nat.le_of_lt lt_x1181) uo1223)) (Nat.le_trans (Nat.le_of_eq hB) (Nat.le_trans (Nat.le_of_lt lt_x1181) us1223)) (Nat.le_trans (Nat.le_of_eq hB) (Nat.le_trans (Nat.le_of_lt lt_x1181) ub1223)) ga_x1181 ga_o1223 ga_st1223 ga_bt1223) own_pd1c8364 rfl rfl (hz _ rfl) (rest := []) rfl (W := 0) (Own.hw0 rfl rfl) (hb hby at_96) (by decide) (by decide) (by decide) (by decide) (fun v1228 vm1228 T1228 h1228 S1228 C1228 q1228 => ?_)
    obtain ⟨K1228, rfl, OB1228, ⟨ol1228, Ao1228, lo1228⟩, ⟨As1228, -⟩⟩ := q1228
    have J1228 : Own.Stp Z consts_1 vm1223 h1223 vm1228 h1228 [x1181, o1223, st1223] := ⟨K1228, C1228⟩
    have OC1228 : own_Ob Z h1228 x1181 o1223 (3 : Int32) st1223 (2 : Int32) bt1223 (0 : Int32) (((0 : Int64) + (own_sl q0).toInt64) + (own_sl q1).toInt64) (1 : Int32) (0 : Int32) (0 : Int32) (0 : Int32) (0 : Int64) (0 : Int64) (0 : Int64) (0 : Int64) := OB1228
    obtain ⟨E_x11811229, F1229_o, F1229_oc, F1229_st, F1229_sc, F1229_bt, F1229_bc, F1229_ch, F1229_lst, F1229_ro, F1229_rs, F1229_rb, F1229_rch, F1229_ob, F1229_sb, F1229_bb⟩ := id OC1228
    have At1228 : Arv Z h1228 st1223 ks1223 (.object "java/lang/String") (4096 : Int32) [w1169, w1171] .null := As1228
    refine hG.st (fun t q => XS.aload S1228.here hx rfl (hb hby at_99) rfl rfl (XS.aload S1228.here hx rfl (hb hby at_101) rfl rfl (XS.iconst S1228.here hx rfl (hb hby at_103) (XS.iload S1228.here hx rfl (hb hby at_104) rfl q)))) ?_
    show G T1228 (mkF m 106 #[iv q0, iv q1, iv q2, iv q3, iv q4, iv q5, iv l6, iv r7, iv f8, rv x1168, .val w1169, .val w1171, .val w1173, .val w1175, .val (.long v14), .second, .val (.long v16), .second, rv x1181, .unset, .unset, .unset] [(.int l6), (.int 0), (.ref x1168), (.ref x1181)])
    have OB1230 : own_Ob Z h1228 x1181 o1223 (3 : Int32) st1223 (2 : Int32) bt1223 (0 : Int32) (((0 : Int64) + (own_sl q0).toInt64) + (own_sl q1).toInt64) (1 : Int32) (0 : Int32) (0 : Int32) (0 : Int32) (0 : Int64) (0 : Int64) (0 : Int64) (0 : Int64) := ⟨E_x11811229, F1229_o, F1229_oc, F1229_st, F1229_sc, F1229_bt, F1229_bc, F1229_ch, F1229_lst, F1229_ro, F1229_rs, F1229_rb, F1229_rch, F1229_ob, F1229_sb, F1229_bb⟩
    have V1231 := J1228.arv Ab1223 (ninS (Ne.symm (Exa.neArv (J1223.exa E1181) Ab1223 (hW 55 _ rfl))) (ninS (Own.arr_neK Ab1223 Ao1223 (by simp)) (ninS (Own.arr_neK Ab1223 As1223 (by simp)) nin0)))
    have J1232 : Own.Stp Z consts_1 vm1167 h1168 vm1171 h1171 [] := Own.Stp.trans J1169 J1171 (all0) all0
    have J1233 : Own.Stp Z consts_1 vm1167 h1168 vm1173 h1173 [] := Own.Stp.trans J1232 J1173 (all0) all0
    have J1234 : Own.Stp Z consts_1 vm1167 h1168 vm1175 h1175 [] := Own.Stp.trans J1233 J1175 (all0) all0
    have J1235 : Own.Stp Z consts_1 vm1167 h1168 vm1177 h1177 [] := Own.Stp.trans J1234 J1177 (all0) all0
    have J1236 : Own.Stp Z consts_1 vm1167 h1168 vm1178 h1178 [] := Own.Stp.trans J1235 J1178 (all0) all0
    have J1237 : Own.Stp Z consts_1 vm1167 h1168 vm1179 h1179 [] := Own.Stp.trans J1236 J1179 (all0) all0
    have J1238 : Own.Stp Z consts_1 vm1167 h1168 vm1180 h1180 [] := Own.Stp.trans J1237 J1180 (all0) all0
    have J1239 : Own.Stp Z consts_1 vm1167 h1168 vm1180 h1181 [] := Own.Stp.trans J1238 J1181 (all0) all0
    have J1240 : Own.Stp Z consts_1 vm1167 h1168 vm1223 h1223 [] := Own.Stp.trans J1239 J1223 (all0) (allS (Or.inr (Nat.le_trans J1238.1.1 (Nat.le_of_eq g_x1181.symm))) all0)
    have J1241 : Own.Stp Z consts_1 vm1167 h1168 vm1228 h1228 [] := Own.Stp.trans J1240 J1228 (all0) (allS (Or.inr (Nat.le_trans J1238.1.1 (Nat.le_of_eq g_x1181.symm))) (allS (Or.inr (Nat.le_trans J1239.1.1 uo1223)) (allS (Or.inr (Nat.le_trans J1239.1.1 us1223)) all0)))
    have V1242 := J1241.arv V1168 nin0
    refine Own.Sit.callV hG S1228 hx hEL (as := [(.ref x1168), (.int 0), (.int l6)]) (hW 104 _ rfl) (hW 105 _ rfl) (hW 107 _ rfl) (hW 106 _ rfl) (hW 56 _ rfl) (hW 108 _ rfl) (by decide) E_x11811229 (own_text l Z a0 H x1181 x1168 l6 o1223 st1223 bt1223 (0 : Int32) (((0 : Int64) + (own_sl q0).toInt64) + (own_sl q1).toInt64) (1 : Int32) (0 : Int32) (0 : Int32) (0 : Int32) (0 : Int64) (0 : Int64) (0 : Int64) (0 : Int64)  B h1228 S1228.old OB1230 ⟨_, Ao1228, lo1228⟩ ⟨At1228, hOv⟩ rfl ⟨_, V1231, lb1223⟩  (Nat.le_trans (Nat.le_of_eq hB) (Nat.le_refl _)) (Nat.le_trans (Nat.le_of_eq hB) (Nat.le_trans (Nat.le_of_lt lt_x1181) uo1223)) (Nat.le_trans (Nat.le_of_eq hB) (Nat.le_trans (Nat.le_of_lt lt_x1181) us1223)) (Nat.le_trans (Nat.le_of_eq hB) (Nat.le_trans (Nat.le_of_lt lt_x1181) ub1223)) ga_x1181 ga_o1223 ga_st1223 ga_bt1223 (by decide) hl6 V1242 (Nat.lt_of_lt_of_eq (Nat.lt_of_lt_of_le lt_x1168 J1238.1.1) (g_x1181.symm.trans hB.symm))) own_pda0ae7c rfl rfl (hz _ rfl) (rest := []) rfl (W := 0) (Own.hw0 rfl rfl) (hb hby at_106) (by decide) (by decide) (by decide) (by decide) (fun v1243 vm1243 T1243 h1243 S1243 C1243 q1243 => ?_)
    obtain ⟨K1243, rfl, OB1243, ⟨ol1243, Ao1243, lo1243⟩, ⟨As1243, -⟩, bl1243, Ab1243, lb1243⟩ := q1243
    have J1243 : Own.Stp Z consts_1 vm1228 h1228 vm1243 h1243 [x1181, o1223, bt1223] := ⟨K1243, C1243⟩
    have OC1243 : own_Ob Z h1243 x1181 o1223 (5 : Int32) st1223 (2 : Int32) bt1223 ((0 : Int32) + l6) (((0 : Int64) + (own_sl q0).toInt64) + (own_sl q1).toInt64) (1 : Int32) (0 : Int32) (0 : Int32) (0 : Int32) (0 : Int64) (0 : Int64) (0 : Int64) (0 : Int64) := OB1243
    obtain ⟨E_x11811244, F1244_o, F1244_oc, F1244_st, F1244_sc, F1244_bt, F1244_bc, F1244_ch, F1244_lst, F1244_ro, F1244_rs, F1244_rb, F1244_rch, F1244_ob, F1244_sb, F1244_bb⟩ := id OC1243
    have At1243 : Arv Z h1243 st1223 ks1223 (.object "java/lang/String") (4096 : Int32) [w1169, w1171] .null := As1243
    refine hG.st (fun t q => XS.aload S1243.here hx rfl (hb hby at_109) rfl rfl (XS.aload S1243.here hx rfl (hb hby at_111) rfl (own_NS.ref N1173) (XS.aload S1243.here hx rfl (hb hby at_113) rfl (own_NS.ref N1175) q))) ?_
    show G T1243 (mkF m 115 #[iv q0, iv q1, iv q2, iv q3, iv q4, iv q5, iv l6, iv r7, iv f8, rv x1168, .val w1169, .val w1171, .val w1173, .val w1175, .val (.long v14), .second, .val (.long v16), .second, rv x1181, .unset, .unset, .unset] [w1175, w1173, (.ref x1181)])
    have J1245 : Own.Stp Z consts_1 vm1180 h1181 vm1228 h1228 [x1181] := Own.Stp.trans J1223 J1228 (allS (List.mem_of_getElem? (i := 0) rfl) (all0)) (allS (Or.inl (List.mem_of_getElem? (i := 0) rfl)) (allS (Or.inr uo1223) (allS (Or.inr us1223) all0)))
    have J1246 : Own.Stp Z consts_1 vm1180 h1181 vm1243 h1243 [x1181] := Own.Stp.trans J1245 J1243 (allS (List.mem_of_getElem? (i := 0) rfl) (all0)) (allS (Or.inl (List.mem_of_getElem? (i := 0) rfl)) (allS (Or.inr uo1223) (allS (Or.inr ub1223) all0)))
    have N1247 := own_NS.stp N1217 J1246 (allS (Nat.le_trans (Nat.le_of_eq hB) (Nat.le_refl _)) all0)
    have N1248 := own_NS.stp N1222 J1246 (allS (Nat.le_trans (Nat.le_of_eq hB) (Nat.le_refl _)) all0)
    have OB1249 : own_Ob Z h1243 x1181 o1223 (5 : Int32) st1223 (2 : Int32) bt1223 ((0 : Int32) + l6) (((0 : Int64) + (own_sl q0).toInt64) + (own_sl q1).toInt64) (1 : Int32) (0 : Int32) (0 : Int32) (0 : Int32) (0 : Int64) (0 : Int64) (0 : Int64) (0 : Int64) := ⟨E_x11811244, F1244_o, F1244_oc, F1244_st, F1244_sc, F1244_bt, F1244_bc, F1244_ch, F1244_lst, F1244_ro, F1244_rs, F1244_rb, F1244_rch, F1244_ob, F1244_sb, F1244_bb⟩
    refine Own.Sit.callV hG S1243 hx hEL (as := [w1173, w1175]) (hW 127 _ rfl) (hW 128 _ rfl) (hW 130 _ rfl) (hW 129 _ rfl) (hW 56 _ rfl) (hW 131 _ rfl) (by decide) E_x11811244 (own_end l Z a0 H x1181 w1173 w1175 o1223 st1223 bt1223 ((0 : Int32) + l6) (((0 : Int64) + (own_sl q0).toInt64) + (own_sl q1).toInt64) (1 : Int32) (0 : Int32) (0 : Int32) (0 : Int32) (0 : Int64) (0 : Int64) (0 : Int64) (0 : Int64) (own_sl q2) (own_sl q3) B h1243 S1243.old OB1249 ⟨_, Ao1243, lo1243⟩ ⟨At1243, hOv⟩ rfl N1247 N1248 (Nat.le_trans (Nat.le_of_eq hB) (Nat.le_refl _)) (Nat.le_trans (Nat.le_of_eq hB) (Nat.le_trans (Nat.le_of_lt lt_x1181) uo1223)) (Nat.le_trans (Nat.le_of_eq hB) (Nat.le_trans (Nat.le_of_lt lt_x1181) us1223)) (Nat.le_trans (Nat.le_of_eq hB) (Nat.le_trans (Nat.le_of_lt lt_x1181) ub1223)) ga_x1181 ga_o1223 ga_st1223 ga_bt1223) own_pd1c8364 rfl rfl (hz _ rfl) (rest := []) rfl (W := 0) (Own.hw0 rfl rfl) (hb hby at_115) (by decide) (by decide) (by decide) (by decide) (fun v1250 vm1250 T1250 h1250 S1250 C1250 q1250 => ?_)
    obtain ⟨K1250, rfl, OB1250, ⟨ol1250, Ao1250, lo1250⟩, ⟨As1250, -⟩⟩ := q1250
    have J1250 : Own.Stp Z consts_1 vm1243 h1243 vm1250 h1250 [x1181, o1223, st1223] := ⟨K1250, C1250⟩
    have OC1250 : own_Ob Z h1250 x1181 o1223 (6 : Int32) st1223 (4 : Int32) bt1223 ((0 : Int32) + l6) (((((0 : Int64) + (own_sl q0).toInt64) + (own_sl q1).toInt64) + (own_sl q2).toInt64) + (own_sl q3).toInt64) (1 : Int32) (0 : Int32) (0 : Int32) (0 : Int32) (0 : Int64) (0 : Int64) (0 : Int64) (0 : Int64) := OB1250
    obtain ⟨E_x11811251, F1251_o, F1251_oc, F1251_st, F1251_sc, F1251_bt, F1251_bc, F1251_ch, F1251_lst, F1251_ro, F1251_rs, F1251_rb, F1251_rch, F1251_ob, F1251_sb, F1251_bb⟩ := id OC1250
    have At1250 : Arv Z h1250 st1223 ks1223 (.object "java/lang/String") (4096 : Int32) [w1169, w1171, w1173, w1175] .null := As1250
    refine hG.st (fun t q => XS.iload S1250.here hx rfl (hb hby at_118) rfl q) ?_
    show G T1250 (mkF m 120 #[iv q0, iv q1, iv q2, iv q3, iv q4, iv q5, iv l6, iv r7, iv f8, rv x1168, .val w1169, .val w1171, .val w1173, .val w1175, .val (.long v14), .second, .val (.long v16), .second, rv x1181, .unset, .unset, .unset] [(.int r7)])
    by_cases hc120 : r7 = (0 : Int32)
    ·
      refine hG.st (fun t q => XS.ifNo S1250.here hx rfl (hb hby at_120) rfl ((if0 _ _).trans (teq hc120).2) (XS.lconst S1250.here hx rfl (hb hby at_123) (XS.lstore S1250.here hx rfl (hb hby at_124) rfl (l' := #[iv q0, iv q1, iv q2, iv q3, iv q4, iv q5, iv l6, iv r7, iv f8, rv x1168, .val w1169, .val w1171, .val w1173, .val w1175, .val (.long v14), .second, .val (.long v16), .second, rv x1181, .val (.long (0 : Int64)), .second, .unset]) rfl (XS.goto S1250.here hx rfl (pc0 := 126) (pc' := 213) rfl (hb hby at_126) (by decide) (by decide) q)))) ?_
      show G T1250 (mkF m 213 #[iv q0, iv q1, iv q2, iv q3, iv q4, iv q5, iv l6, iv r7, iv f8, rv x1168, .val w1169, .val w1171, .val w1173, .val w1175, .val (.long v14), .second, .val (.long v16), .second, rv x1181, .val (.long (0 : Int64)), .second, .unset] [])
      obtain ⟨v19, ev19⟩ : ∃ z : Int64, z = (0 : Int64) := ⟨_, rfl⟩
      rw [← ev19]
      show G T1250 (mkF m 213 #[iv q0, iv q1, iv q2, iv q3, iv q4, iv q5, iv l6, iv r7, iv f8, rv x1168, .val w1169, .val w1171, .val w1173, .val w1175, .val (.long v14), .second, .val (.long v16), .second, rv x1181, .val (.long v19), .second, .unset] [])
      refine hG.st (fun t q => XS.aload S1250.here hx rfl (hb hby at_213) rfl rfl q) ?_
      show G T1250 (mkF m 215 #[iv q0, iv q1, iv q2, iv q3, iv q4, iv q5, iv l6, iv r7, iv f8, rv x1168, .val w1169, .val w1171, .val w1173, .val w1175, .val (.long v14), .second, .val (.long v16), .second, rv x1181, .val (.long v19), .second, .unset] [(.ref x1181)])
      have OB1252 : own_Ob Z h1250 x1181 o1223 (6 : Int32) st1223 (4 : Int32) bt1223 ((0 : Int32) + l6) (((((0 : Int64) + (own_sl q0).toInt64) + (own_sl q1).toInt64) + (own_sl q2).toInt64) + (own_sl q3).toInt64) (1 : Int32) (0 : Int32) (0 : Int32) (0 : Int32) (0 : Int64) (0 : Int64) (0 : Int64) (0 : Int64) := ⟨E_x11811251, F1251_o, F1251_oc, F1251_st, F1251_sc, F1251_bt, F1251_bc, F1251_ch, F1251_lst, F1251_ro, F1251_rs, F1251_rb, F1251_rch, F1251_ob, F1251_sb, F1251_bb⟩
      refine Own.Sit.callV hG S1250 hx hEL (as := []) (hW 150 _ rfl) (hW 151 _ rfl) (hW 153 _ rfl) (hW 152 _ rfl) (hW 56 _ rfl) (hW 154 _ rfl) (by decide) E_x11811251 (own_rsz l Z a0 H x1181 o1223 (6 : Int32) st1223 (4 : Int32) bt1223 ((0 : Int32) + l6) (((((0 : Int64) + (own_sl q0).toInt64) + (own_sl q1).toInt64) + (own_sl q2).toInt64) + (own_sl q3).toInt64) (1 : Int32) (0 : Int32) (0 : Int32) (0 : Int32) (0 : Int64) (0 : Int64) (0 : Int64) (0 : Int64) h1250 S1250.old OB1252) own_pd217456 rfl rfl (hz _ rfl) (rest := []) rfl (W := 0) (Own.hw0 rfl rfl) (hb hby at_215) (by decide) (by decide) (by decide) (by decide) (fun v1253 vm1253 T1253 h1253 S1253 C1253 q1253 => ?_)
      obtain ⟨K1253, rfl⟩ := q1253
      have J1253 : Own.Stp Z consts_1 vm1250 h1250 vm1253 h1253 [] := ⟨K1253, C1253⟩
      refine hG.st (fun t q => XS.lload S1253.here hx rfl (hb hby at_218) rfl (XS.lcmp S1253.here hx rfl (hb hby at_220) rfl q)) ?_
      show G T1253 (mkF m 221 #[iv q0, iv q1, iv q2, iv q3, iv q4, iv q5, iv l6, iv r7, iv f8, rv x1168, .val w1169, .val w1171, .val w1173, .val w1175, .val (.long v14), .second, .val (.long v16), .second, rv x1181, .val (.long v19), .second, .unset] [(.int (lcmpW (((0 : Int32) + (0 : Int32)).toInt64 + (0 : Int64)) v19))])
      have hva0 : (lcmpW (((0 : Int32) + (0 : Int32)).toInt64 + (0 : Int64)) v19) = 0 := own_lc (by rw [ev19]; exact own_fina0 (own_sl q0) (own_sl q1) (own_sl q2) (own_sl q3) l6 hl6)
      refine hG.st (fun t q => XS.ifNo S1253.here hx rfl (hb hby at_221) rfl ((if0 _ _).trans (teq (hva0 : (lcmpW (((0 : Int32) + (0 : Int32)).toInt64 + (0 : Int64)) v19) = (0 : Int32))).2) (XS.iconst S1253.here hx rfl (hb hby at_224) (XS.goto S1253.here hx rfl (pc0 := 225) (pc' := 229) rfl (hb hby at_225) (by decide) (by decide) (XS.istore S1253.here hx rfl (hb hby at_229) rfl (l' := #[iv q0, iv q1, iv q2, iv q3, iv q4, iv q5, iv l6, iv r7, iv f8, rv x1168, .val w1169, .val w1171, .val w1173, .val w1175, .val (.long v14), .second, .val (.long v16), .second, rv x1181, .val (.long v19), .second, iv 1]) rfl (XS.iload S1253.here hx rfl (hb hby at_231) rfl q))))) ?_
      show G T1253 (mkF m 233 #[iv q0, iv q1, iv q2, iv q3, iv q4, iv q5, iv l6, iv r7, iv f8, rv x1168, .val w1169, .val w1171, .val w1173, .val w1175, .val (.long v14), .second, .val (.long v16), .second, rv x1181, .val (.long v19), .second, iv 1] [(.int f8)])
      by_cases hc233 : f8 = (0 : Int32)
      ·
        refine hG.st (fun t q => XS.ifYes S1253.here hx rfl (pc0 := 233) (pc' := 275) rfl (hb hby at_233) rfl ((if0 _ _).trans (teq hc233).1) (by decide) (by decide) (XS.iload S1253.here hx rfl (hb hby at_275) rfl q)) ?_
        show G T1253 (mkF m 277 #[iv q0, iv q1, iv q2, iv q3, iv q4, iv q5, iv l6, iv r7, iv f8, rv x1168, .val w1169, .val w1171, .val w1173, .val w1175, .val (.long v14), .second, .val (.long v16), .second, rv x1181, .val (.long v19), .second, iv 1] [(.int 1)])
        have J1254 : Own.Stp Z consts_1 vm0 h0 vm1167 h1168 [] := Own.Stp.trans J1167 J1168 (all0) all0
        have J1255 : Own.Stp Z consts_1 vm0 h0 vm1169 h1169 [] := Own.Stp.trans J1254 J1169 (all0) all0
        have J1256 : Own.Stp Z consts_1 vm0 h0 vm1171 h1171 [] := Own.Stp.trans J1255 J1171 (all0) all0
        have J1257 : Own.Stp Z consts_1 vm0 h0 vm1173 h1173 [] := Own.Stp.trans J1256 J1173 (all0) all0
        have J1258 : Own.Stp Z consts_1 vm0 h0 vm1175 h1175 [] := Own.Stp.trans J1257 J1175 (all0) all0
        have J1259 : Own.Stp Z consts_1 vm0 h0 vm1177 h1177 [] := Own.Stp.trans J1258 J1177 (all0) all0
        have J1260 : Own.Stp Z consts_1 vm0 h0 vm1178 h1178 [] := Own.Stp.trans J1259 J1178 (all0) all0
        have J1261 : Own.Stp Z consts_1 vm0 h0 vm1179 h1179 [] := Own.Stp.trans J1260 J1179 (all0) all0
        have J1262 : Own.Stp Z consts_1 vm0 h0 vm1180 h1180 [] := Own.Stp.trans J1261 J1180 (all0) all0
        have J1263 : Own.Stp Z consts_1 vm0 h0 vm1180 h1181 [] := Own.Stp.trans J1262 J1181 (all0) all0
        have J1264 : Own.Stp Z consts_1 vm0 h0 vm1223 h1223 [] := Own.Stp.trans J1263 J1223 (all0) (allS (Or.inr (Nat.le_trans J1262.1.1 (Nat.le_of_eq g_x1181.symm))) all0)
        have J1265 : Own.Stp Z consts_1 vm0 h0 vm1228 h1228 [] := Own.Stp.trans J1264 J1228 (all0) (allS (Or.inr (Nat.le_trans J1262.1.1 (Nat.le_of_eq g_x1181.symm))) (allS (Or.inr (Nat.le_trans J1263.1.1 uo1223)) (allS (Or.inr (Nat.le_trans J1263.1.1 us1223)) all0)))
        have J1266 : Own.Stp Z consts_1 vm0 h0 vm1243 h1243 [] := Own.Stp.trans J1265 J1243 (all0) (allS (Or.inr (Nat.le_trans J1262.1.1 (Nat.le_of_eq g_x1181.symm))) (allS (Or.inr (Nat.le_trans J1263.1.1 uo1223)) (allS (Or.inr (Nat.le_trans J1263.1.1 ub1223)) all0)))
        have J1267 : Own.Stp Z consts_1 vm0 h0 vm1250 h1250 [] := Own.Stp.trans J1266 J1250 (all0) (allS (Or.inr (Nat.le_trans J1262.1.1 (Nat.le_of_eq g_x1181.symm))) (allS (Or.inr (Nat.le_trans J1263.1.1 uo1223)) (allS (Or.inr (Nat.le_trans J1263.1.1 us1223)) all0)))
        have J1268 : Own.Stp Z consts_1 vm0 h0 vm1253 h1253 [] := Own.Stp.trans J1267 J1253 (all0) all0
        exact Own.Sit.retN hR S1253 hx (t := .boolean) hret (by simp) (hb hby at_277) (by decide) (by decide) ⟨J1268.1, rfl⟩
      ·
        refine hG.st (fun t q => XS.ifNo S1253.here hx rfl (hb hby at_233) rfl ((if0 _ _).trans (feq hc233).1) (XS.aload S1253.here hx rfl (hb hby at_236) rfl rfl q)) ?_
        show G T1253 (mkF m 238 #[iv q0, iv q1, iv q2, iv q3, iv q4, iv q5, iv l6, iv r7, iv f8, rv x1168, .val w1169, .val w1171, .val w1173, .val w1175, .val (.long v14), .second, .val (.long v16), .second, rv x1181, .val (.long v19), .second, iv 1] [(.ref x1181)])
        have J1269 : Own.Stp Z consts_1 vm1223 h1223 vm1243 h1243 [x1181, o1223, st1223, bt1223] := Own.Stp.trans J1228 J1243 (allS (List.mem_of_getElem? (i := 0) rfl) (allS (List.mem_of_getElem? (i := 1) rfl) (allS (List.mem_of_getElem? (i := 2) rfl) (all0)))) (allS (Or.inl (List.mem_of_getElem? (i := 0) rfl)) (allS (Or.inl (List.mem_of_getElem? (i := 1) rfl)) (allS (Or.inl (List.mem_of_getElem? (i := 3) rfl)) all0)))
        have J1270 : Own.Stp Z consts_1 vm1223 h1223 vm1250 h1250 [x1181, o1223, st1223, bt1223] := Own.Stp.trans J1269 J1250 (allS (List.mem_of_getElem? (i := 0) rfl) (allS (List.mem_of_getElem? (i := 1) rfl) (allS (List.mem_of_getElem? (i := 2) rfl) (allS (List.mem_of_getElem? (i := 3) rfl) (all0))))) (allS (Or.inl (List.mem_of_getElem? (i := 0) rfl)) (allS (Or.inl (List.mem_of_getElem? (i := 1) rfl)) (allS (Or.inl (List.mem_of_getElem? (i := 2) rfl)) all0)))
        have J1271 : Own.Stp Z consts_1 vm1223 h1223 vm1253 h1253 [x1181, o1223, st1223, bt1223] := Own.Stp.trans J1270 J1253 (allS (List.mem_of_getElem? (i := 0) rfl) (allS (List.mem_of_getElem? (i := 1) rfl) (allS (List.mem_of_getElem? (i := 2) rfl) (allS (List.mem_of_getElem? (i := 3) rfl) (all0))))) all0
        have N1272 := own_NS.stp N1225 J1271 (allS (Nat.le_trans (Nat.le_of_eq hB) (Nat.le_refl _)) (allS (Nat.le_trans (Nat.le_of_eq hB) (Nat.le_trans (Nat.le_of_lt lt_x1181) uo1223)) (allS (Nat.le_trans (Nat.le_of_eq hB) (Nat.le_trans (Nat.le_of_lt lt_x1181) us1223)) (allS (Nat.le_trans (Nat.le_of_eq hB) (Nat.le_trans (Nat.le_of_lt lt_x1181) ub1223)) all0))))
        have N1273 := own_NS.stp N1226 J1271 (allS (Nat.le_trans (Nat.le_of_eq hB) (Nat.le_refl _)) (allS (Nat.le_trans (Nat.le_of_eq hB) (Nat.le_trans (Nat.le_of_lt lt_x1181) uo1223)) (allS (Nat.le_trans (Nat.le_of_eq hB) (Nat.le_trans (Nat.le_of_lt lt_x1181) us1223)) (allS (Nat.le_trans (Nat.le_of_eq hB) (Nat.le_trans (Nat.le_of_lt lt_x1181) ub1223)) all0))))
        have J1274 : Own.Stp Z consts_1 vm1243 h1243 vm1253 h1253 [x1181, o1223, st1223] := Own.Stp.trans J1250 J1253 (allS (List.mem_of_getElem? (i := 0) rfl) (allS (List.mem_of_getElem? (i := 1) rfl) (allS (List.mem_of_getElem? (i := 2) rfl) (all0)))) all0
        have N1275 := own_NS.stp N1247 J1274 (allS (Nat.le_trans (Nat.le_of_eq hB) (Nat.le_refl _)) (allS (Nat.le_trans (Nat.le_of_eq hB) (Nat.le_trans (Nat.le_of_lt lt_x1181) uo1223)) (allS (Nat.le_trans (Nat.le_of_eq hB) (Nat.le_trans (Nat.le_of_lt lt_x1181) us1223)) all0)))
        have N1276 := own_NS.stp N1248 J1274 (allS (Nat.le_trans (Nat.le_of_eq hB) (Nat.le_refl _)) (allS (Nat.le_trans (Nat.le_of_eq hB) (Nat.le_trans (Nat.le_of_lt lt_x1181) uo1223)) (allS (Nat.le_trans (Nat.le_of_eq hB) (Nat.le_trans (Nat.le_of_lt lt_x1181) us1223)) all0)))
        have E1278 := J1253.exa E_x11811251
        have F1279 := J1253.fld F1251_o nin0
        have F1280 := J1253.fld F1251_oc nin0
        have F1281 := J1253.fld F1251_st nin0
        have F1282 := J1253.fld F1251_sc nin0
        have F1283 := J1253.fld F1251_bt nin0
        have F1284 := J1253.fld F1251_bc nin0
        have F1285 := J1253.fld F1251_ch nin0
        have F1286 := J1253.fld F1251_lst nin0
        have F1287 := J1253.fld F1251_ro nin0
        have F1288 := J1253.fld F1251_rs nin0
        have F1289 := J1253.fld F1251_rb nin0
        have F1290 := J1253.fld F1251_rch nin0
        have F1291 := J1253.fld F1251_ob nin0
        have F1292 := J1253.fld F1251_sb nin0
        have F1293 := J1253.fld F1251_bb nin0
        have OB1277 : own_Ob Z h1253 x1181 o1223 (6 : Int32) st1223 (4 : Int32) bt1223 ((0 : Int32) + l6) (((((0 : Int64) + (own_sl q0).toInt64) + (own_sl q1).toInt64) + (own_sl q2).toInt64) + (own_sl q3).toInt64) (1 : Int32) (0 : Int32) (0 : Int32) (0 : Int32) (0 : Int64) (0 : Int64) (0 : Int64) (0 : Int64) := ⟨E1278, F1279, F1280, F1281, F1282, F1283, F1284, F1285, F1286, F1287, F1288, F1289, F1290, F1291, F1292, F1293⟩
        have V1294 := J1253.arv At1250 nin0
        refine Own.Sit.callV hG S1253 hx hEL (as := []) (hW 132 _ rfl) (hW 133 _ rfl) (hW 135 _ rfl) (hW 134 _ rfl) (hW 56 _ rfl) (hW 136 _ rfl) (by decide) E1278 (own_rel0 l Z a0 H x1181  o1223 st1223 bt1223 ((0 : Int32) + l6) (((((0 : Int64) + (own_sl q0).toInt64) + (own_sl q1).toInt64) + (own_sl q2).toInt64) + (own_sl q3).toInt64) (1 : Int32) (0 : Int32) (0 : Int32) (0 : Int64) (0 : Int64) (0 : Int64) (0 : Int64) w1169 w1171 w1173 w1175 (own_sl q0) (own_sl q1) (own_sl q2) (own_sl q3) B h1253 S1253.old OB1277 ⟨V1294, hOv⟩ N1272 N1273 N1275 N1276 (Nat.le_trans (Nat.le_of_eq hB) (Nat.le_refl _)) (Nat.le_trans (Nat.le_of_eq hB) (Nat.le_trans (Nat.le_of_lt lt_x1181) us1223)) ga_x1181 ga_st1223) own_pd62febe rfl rfl (hz _ rfl) (rest := []) rfl (W := 0) (Own.hw0 rfl rfl) (hb hby at_238) (by decide) (by decide) (by decide) (by decide) (fun v1295 vm1295 T1295 h1295 S1295 C1295 q1295 => ?_)
        obtain ⟨K1295, rfl, OB1295⟩ := q1295
        have J1295 : Own.Stp Z consts_1 vm1253 h1253 vm1295 h1295 [x1181] := ⟨K1295, C1295⟩
        have OC1295 : own_Ob Z h1295 x1181 o1223 (6 : Int32) st1223 (4 : Int32) bt1223 ((0 : Int32) + l6) (((((0 : Int64) + (own_sl q0).toInt64) + (own_sl q1).toInt64) + (own_sl q2).toInt64) + (own_sl q3).toInt64) (1 : Int32) (6 : Int32) (4 : Int32) ((0 : Int32) + l6) (((((0 : Int64) + (own_sl q0).toInt64) + (own_sl q1).toInt64) + (own_sl q2).toInt64) + (own_sl q3).toInt64) (0 : Int64) (0 : Int64) (0 : Int64) := OB1295
        obtain ⟨E_x11811296, F1296_o, F1296_oc, F1296_st, F1296_sc, F1296_bt, F1296_bc, F1296_ch, F1296_lst, F1296_ro, F1296_rs, F1296_rb, F1296_rch, F1296_ob, F1296_sb, F1296_bb⟩ := id OC1295
        refine hG.st (fun t q => XS.iload S1295.here hx rfl (hb hby at_241) rfl (XS.ifNo S1295.here hx rfl (hb hby at_243) rfl ((if0 _ _).trans (feq (by decide : ¬ ((1 : Int32) = (0 : Int32)))).1) (XS.aload S1295.here hx rfl (hb hby at_246) rfl rfl q))) ?_
        show G T1295 (mkF m 248 #[iv q0, iv q1, iv q2, iv q3, iv q4, iv q5, iv l6, iv r7, iv f8, rv x1168, .val w1169, .val w1171, .val w1173, .val w1175, .val (.long v14), .second, .val (.long v16), .second, rv x1181, .val (.long v19), .second, iv 1] [(.ref x1181)])
        have OB1297 : own_Ob Z h1295 x1181 o1223 (6 : Int32) st1223 (4 : Int32) bt1223 ((0 : Int32) + l6) (((((0 : Int64) + (own_sl q0).toInt64) + (own_sl q1).toInt64) + (own_sl q2).toInt64) + (own_sl q3).toInt64) (1 : Int32) (6 : Int32) (4 : Int32) ((0 : Int32) + l6) (((((0 : Int64) + (own_sl q0).toInt64) + (own_sl q1).toInt64) + (own_sl q2).toInt64) + (own_sl q3).toInt64) (0 : Int64) (0 : Int64) (0 : Int64) := ⟨E_x11811296, F1296_o, F1296_oc, F1296_st, F1296_sc, F1296_bt, F1296_bc, F1296_ch, F1296_lst, F1296_ro, F1296_rs, F1296_rb, F1296_rch, F1296_ob, F1296_sb, F1296_bb⟩
        refine Own.Sit.callV hG S1295 hx hEL (as := []) (hW 150 _ rfl) (hW 151 _ rfl) (hW 153 _ rfl) (hW 152 _ rfl) (hW 56 _ rfl) (hW 154 _ rfl) (by decide) E_x11811296 (own_rsz l Z a0 H x1181 o1223 (6 : Int32) st1223 (4 : Int32) bt1223 ((0 : Int32) + l6) (((((0 : Int64) + (own_sl q0).toInt64) + (own_sl q1).toInt64) + (own_sl q2).toInt64) + (own_sl q3).toInt64) (1 : Int32) (6 : Int32) (4 : Int32) ((0 : Int32) + l6) (((((0 : Int64) + (own_sl q0).toInt64) + (own_sl q1).toInt64) + (own_sl q2).toInt64) + (own_sl q3).toInt64) (0 : Int64) (0 : Int64) (0 : Int64) h1295 S1295.old OB1297) own_pd217456 rfl rfl (hz _ rfl) (rest := []) rfl (W := 0) (Own.hw0 rfl rfl) (hb hby at_248) (by decide) (by decide) (by decide) (by decide) (fun v1298 vm1298 T1298 h1298 S1298 C1298 q1298 => ?_)
        obtain ⟨K1298, rfl⟩ := q1298
        have J1298 : Own.Stp Z consts_1 vm1295 h1295 vm1298 h1298 [] := ⟨K1298, C1298⟩
        show G T1298 (mkF m 251 #[iv q0, iv q1, iv q2, iv q3, iv q4, iv q5, iv l6, iv r7, iv f8, rv x1168, .val w1169, .val w1171, .val w1173, .val w1175, .val (.long v14), .second, .val (.long v16), .second, rv x1181, .val (.long v19), .second, iv 1] [(.long (((6 : Int32) + ((0 : Int32) + l6)).toInt64 + (((((0 : Int64) + (own_sl q0).toInt64) + (own_sl q1).toInt64) + (own_sl q2).toInt64) + (own_sl q3).toInt64)))])
        refine Own.Sit.ldc2 hG S1298 hx (hW 149 _ rfl) rfl (hb hby at_251) ?_
        show G T1298 (mkF m 254 #[iv q0, iv q1, iv q2, iv q3, iv q4, iv q5, iv l6, iv r7, iv f8, rv x1168, .val w1169, .val w1171, .val w1173, .val w1175, .val (.long v14), .second, .val (.long v16), .second, rv x1181, .val (.long v19), .second, iv 1] [(.long (6 : Int64)), (.long (((6 : Int32) + ((0 : Int32) + l6)).toInt64 + (((((0 : Int64) + (own_sl q0).toInt64) + (own_sl q1).toInt64) + (own_sl q2).toInt64) + (own_sl q3).toInt64)))])
        refine hG.st (fun t q => XS.iload S1298.here hx rfl (hb hby at_254) rfl (XS.i2l S1298.here hx rfl (hb hby at_256) rfl (XS.ladd S1298.here hx rfl (hb hby at_257) rfl (XS.lload S1298.here hx rfl (hb hby at_258) rfl (XS.ladd S1298.here hx rfl (hb hby at_260) rfl (XS.lload S1298.here hx rfl (hb hby at_261) rfl q)))))) ?_
        show G T1298 (mkF m 263 #[iv q0, iv q1, iv q2, iv q3, iv q4, iv q5, iv l6, iv r7, iv f8, rv x1168, .val w1169, .val w1171, .val w1173, .val w1175, .val (.long v14), .second, .val (.long v16), .second, rv x1181, .val (.long v19), .second, iv 1] [(.long v16), (.long (((6 : Int64) + (l6.toInt64)) + v14)), (.long (((6 : Int32) + ((0 : Int32) + l6)).toInt64 + (((((0 : Int64) + (own_sl q0).toInt64) + (own_sl q1).toInt64) + (own_sl q2).toInt64) + (own_sl q3).toInt64)))])
        refine hG.st (fun t q => XS.ladd S1298.here hx rfl (hb hby at_263) rfl (XS.lcmp S1298.here hx rfl (hb hby at_264) rfl q)) ?_
        show G T1298 (mkF m 265 #[iv q0, iv q1, iv q2, iv q3, iv q4, iv q5, iv l6, iv r7, iv f8, rv x1168, .val w1169, .val w1171, .val w1173, .val w1175, .val (.long v14), .second, .val (.long v16), .second, rv x1181, .val (.long v19), .second, iv 1] [(.int (lcmpW (((6 : Int32) + ((0 : Int32) + l6)).toInt64 + (((((0 : Int64) + (own_sl q0).toInt64) + (own_sl q1).toInt64) + (own_sl q2).toInt64) + (own_sl q3).toInt64)) ((((6 : Int64) + (l6.toInt64)) + v14) + v16)))])
        have hvb0 : (lcmpW (((6 : Int32) + ((0 : Int32) + l6)).toInt64 + (((((0 : Int64) + (own_sl q0).toInt64) + (own_sl q1).toInt64) + (own_sl q2).toInt64) + (own_sl q3).toInt64)) ((((6 : Int64) + (l6.toInt64)) + v14) + v16)) = 0 := own_lc (by rw [ev14, ev16]; exact own_finb0 (own_sl q0) (own_sl q1) (own_sl q2) (own_sl q3) l6 hl6)
        refine hG.st (fun t q => XS.ifNo S1298.here hx rfl (hb hby at_265) rfl ((if0 _ _).trans (teq (hvb0 : (lcmpW (((6 : Int32) + ((0 : Int32) + l6)).toInt64 + (((((0 : Int64) + (own_sl q0).toInt64) + (own_sl q1).toInt64) + (own_sl q2).toInt64) + (own_sl q3).toInt64)) ((((6 : Int64) + (l6.toInt64)) + v14) + v16)) = (0 : Int32))).2) (XS.iconst S1298.here hx rfl (hb hby at_268) (XS.goto S1298.here hx rfl (pc0 := 269) (pc' := 273) rfl (hb hby at_269) (by decide) (by decide) (XS.istore S1298.here hx rfl (hb hby at_273) rfl (l' := #[iv q0, iv q1, iv q2, iv q3, iv q4, iv q5, iv l6, iv r7, iv f8, rv x1168, .val w1169, .val w1171, .val w1173, .val w1175, .val (.long v14), .second, .val (.long v16), .second, rv x1181, .val (.long v19), .second, iv 1]) rfl (XS.iload S1298.here hx rfl (hb hby at_275) rfl q))))) ?_
        show G T1298 (mkF m 277 #[iv q0, iv q1, iv q2, iv q3, iv q4, iv q5, iv l6, iv r7, iv f8, rv x1168, .val w1169, .val w1171, .val w1173, .val w1175, .val (.long v14), .second, .val (.long v16), .second, rv x1181, .val (.long v19), .second, iv 1] [(.int 1)])
        have J1299 : Own.Stp Z consts_1 vm0 h0 vm1167 h1168 [] := Own.Stp.trans J1167 J1168 (all0) all0
        have J1300 : Own.Stp Z consts_1 vm0 h0 vm1169 h1169 [] := Own.Stp.trans J1299 J1169 (all0) all0
        have J1301 : Own.Stp Z consts_1 vm0 h0 vm1171 h1171 [] := Own.Stp.trans J1300 J1171 (all0) all0
        have J1302 : Own.Stp Z consts_1 vm0 h0 vm1173 h1173 [] := Own.Stp.trans J1301 J1173 (all0) all0
        have J1303 : Own.Stp Z consts_1 vm0 h0 vm1175 h1175 [] := Own.Stp.trans J1302 J1175 (all0) all0
        have J1304 : Own.Stp Z consts_1 vm0 h0 vm1177 h1177 [] := Own.Stp.trans J1303 J1177 (all0) all0
        have J1305 : Own.Stp Z consts_1 vm0 h0 vm1178 h1178 [] := Own.Stp.trans J1304 J1178 (all0) all0
        have J1306 : Own.Stp Z consts_1 vm0 h0 vm1179 h1179 [] := Own.Stp.trans J1305 J1179 (all0) all0
        have J1307 : Own.Stp Z consts_1 vm0 h0 vm1180 h1180 [] := Own.Stp.trans J1306 J1180 (all0) all0
        have J1308 : Own.Stp Z consts_1 vm0 h0 vm1180 h1181 [] := Own.Stp.trans J1307 J1181 (all0) all0
        have J1309 : Own.Stp Z consts_1 vm0 h0 vm1223 h1223 [] := Own.Stp.trans J1308 J1223 (all0) (allS (Or.inr (Nat.le_trans J1307.1.1 (Nat.le_of_eq g_x1181.symm))) all0)
        have J1310 : Own.Stp Z consts_1 vm0 h0 vm1228 h1228 [] := Own.Stp.trans J1309 J1228 (all0) (allS (Or.inr (Nat.le_trans J1307.1.1 (Nat.le_of_eq g_x1181.symm))) (allS (Or.inr (Nat.le_trans J1308.1.1 uo1223)) (allS (Or.inr (Nat.le_trans J1308.1.1 us1223)) all0)))
        have J1311 : Own.Stp Z consts_1 vm0 h0 vm1243 h1243 [] := Own.Stp.trans J1310 J1243 (all0) (allS (Or.inr (Nat.le_trans J1307.1.1 (Nat.le_of_eq g_x1181.symm))) (allS (Or.inr (Nat.le_trans J1308.1.1 uo1223)) (allS (Or.inr (Nat.le_trans J1308.1.1 ub1223)) all0)))
        have J1312 : Own.Stp Z consts_1 vm0 h0 vm1250 h1250 [] := Own.Stp.trans J1311 J1250 (all0) (allS (Or.inr (Nat.le_trans J1307.1.1 (Nat.le_of_eq g_x1181.symm))) (allS (Or.inr (Nat.le_trans J1308.1.1 uo1223)) (allS (Or.inr (Nat.le_trans J1308.1.1 us1223)) all0)))
        have J1313 : Own.Stp Z consts_1 vm0 h0 vm1253 h1253 [] := Own.Stp.trans J1312 J1253 (all0) all0
        have J1314 : Own.Stp Z consts_1 vm0 h0 vm1295 h1295 [] := Own.Stp.trans J1313 J1295 (all0) (allS (Or.inr (Nat.le_trans J1307.1.1 (Nat.le_of_eq g_x1181.symm))) all0)
        have J1315 : Own.Stp Z consts_1 vm0 h0 vm1298 h1298 [] := Own.Stp.trans J1314 J1298 (all0) all0
        exact Own.Sit.retN hR S1298 hx (t := .boolean) hret (by simp) (hb hby at_277) (by decide) (by decide) ⟨J1315.1, rfl⟩
    ·
      refine hG.st (fun t q => XS.ifYes S1250.here hx rfl (pc0 := 120) (pc' := 129) rfl (hb hby at_120) rfl ((if0 _ _).trans (feq hc120).2) (by decide) (by decide) (XS.iload S1250.here hx rfl (hb hby at_129) rfl (XS.iconst S1250.here hx rfl (hb hby at_131) q))) ?_
      show G T1250 (mkF m 132 #[iv q0, iv q1, iv q2, iv q3, iv q4, iv q5, iv l6, iv r7, iv f8, rv x1168, .val w1169, .val w1171, .val w1173, .val w1175, .val (.long v14), .second, .val (.long v16), .second, rv x1181, .unset, .unset, .unset] [(.int 1), (.int r7)])
      by_cases hc132 : r7 = (1 : Int32)
      ·
        refine hG.st (fun t q => XS.icmpNo S1250.here hx rfl (hb hby at_132) rfl (teq hc132).2 (XS.aload S1250.here hx rfl (hb hby at_135) rfl rfl q)) ?_
        show G T1250 (mkF m 137 #[iv q0, iv q1, iv q2, iv q3, iv q4, iv q5, iv l6, iv r7, iv f8, rv x1168, .val w1169, .val w1171, .val w1173, .val w1175, .val (.long v14), .second, .val (.long v16), .second, rv x1181, .unset, .unset, .unset] [(.ref x1181)])
        refine Own.Sit.ldc2 hG S1250 hx (hW 168 _ rfl) rfl (hb hby at_137) ?_
        show G T1250 (mkF m 140 #[iv q0, iv q1, iv q2, iv q3, iv q4, iv q5, iv l6, iv r7, iv f8, rv x1168, .val w1169, .val w1171, .val w1173, .val w1175, .val (.long v14), .second, .val (.long v16), .second, rv x1181, .unset, .unset, .unset] [(.long (3 : Int64)), (.ref x1181)])
        refine Own.Sit.ldc2 hG S1250 hx (hW 156 _ rfl) rfl (hb hby at_140) ?_
        show G T1250 (mkF m 143 #[iv q0, iv q1, iv q2, iv q3, iv q4, iv q5, iv l6, iv r7, iv f8, rv x1168, .val w1169, .val w1171, .val w1173, .val w1175, .val (.long v14), .second, .val (.long v16), .second, rv x1181, .unset, .unset, .unset] [(.long (2 : Int64)), (.long (3 : Int64)), (.ref x1181)])
        refine hG.st (fun t q => XS.lconst S1250.here hx rfl (hb hby at_143) q) ?_
        show G T1250 (mkF m 144 #[iv q0, iv q1, iv q2, iv q3, iv q4, iv q5, iv l6, iv r7, iv f8, rv x1168, .val w1169, .val w1171, .val w1173, .val w1175, .val (.long v14), .second, .val (.long v16), .second, rv x1181, .unset, .unset, .unset] [(.long (0 : Int64)), (.long (2 : Int64)), (.long (3 : Int64)), (.ref x1181)])
        have J1316 : Own.Stp Z consts_1 vm1223 h1223 vm1243 h1243 [x1181, o1223, st1223, bt1223] := Own.Stp.trans J1228 J1243 (allS (List.mem_of_getElem? (i := 0) rfl) (allS (List.mem_of_getElem? (i := 1) rfl) (allS (List.mem_of_getElem? (i := 2) rfl) (all0)))) (allS (Or.inl (List.mem_of_getElem? (i := 0) rfl)) (allS (Or.inl (List.mem_of_getElem? (i := 1) rfl)) (allS (Or.inl (List.mem_of_getElem? (i := 3) rfl)) all0)))
        have J1317 : Own.Stp Z consts_1 vm1223 h1223 vm1250 h1250 [x1181, o1223, st1223, bt1223] := Own.Stp.trans J1316 J1250 (allS (List.mem_of_getElem? (i := 0) rfl) (allS (List.mem_of_getElem? (i := 1) rfl) (allS (List.mem_of_getElem? (i := 2) rfl) (allS (List.mem_of_getElem? (i := 3) rfl) (all0))))) (allS (Or.inl (List.mem_of_getElem? (i := 0) rfl)) (allS (Or.inl (List.mem_of_getElem? (i := 1) rfl)) (allS (Or.inl (List.mem_of_getElem? (i := 2) rfl)) all0)))
        have N1318 := own_NS.stp N1225 J1317 (allS (Nat.le_trans (Nat.le_of_eq hB) (Nat.le_refl _)) (allS (Nat.le_trans (Nat.le_of_eq hB) (Nat.le_trans (Nat.le_of_lt lt_x1181) uo1223)) (allS (Nat.le_trans (Nat.le_of_eq hB) (Nat.le_trans (Nat.le_of_lt lt_x1181) us1223)) (allS (Nat.le_trans (Nat.le_of_eq hB) (Nat.le_trans (Nat.le_of_lt lt_x1181) ub1223)) all0))))
        have N1319 := own_NS.stp N1226 J1317 (allS (Nat.le_trans (Nat.le_of_eq hB) (Nat.le_refl _)) (allS (Nat.le_trans (Nat.le_of_eq hB) (Nat.le_trans (Nat.le_of_lt lt_x1181) uo1223)) (allS (Nat.le_trans (Nat.le_of_eq hB) (Nat.le_trans (Nat.le_of_lt lt_x1181) us1223)) (allS (Nat.le_trans (Nat.le_of_eq hB) (Nat.le_trans (Nat.le_of_lt lt_x1181) ub1223)) all0))))
        have N1320 := own_NS.stp N1247 J1250 (allS (Nat.le_trans (Nat.le_of_eq hB) (Nat.le_refl _)) (allS (Nat.le_trans (Nat.le_of_eq hB) (Nat.le_trans (Nat.le_of_lt lt_x1181) uo1223)) (allS (Nat.le_trans (Nat.le_of_eq hB) (Nat.le_trans (Nat.le_of_lt lt_x1181) us1223)) all0)))
        have N1321 := own_NS.stp N1248 J1250 (allS (Nat.le_trans (Nat.le_of_eq hB) (Nat.le_refl _)) (allS (Nat.le_trans (Nat.le_of_eq hB) (Nat.le_trans (Nat.le_of_lt lt_x1181) uo1223)) (allS (Nat.le_trans (Nat.le_of_eq hB) (Nat.le_trans (Nat.le_of_lt lt_x1181) us1223)) all0)))
        have OB1322 : own_Ob Z h1250 x1181 o1223 (6 : Int32) st1223 (4 : Int32) bt1223 ((0 : Int32) + l6) (((((0 : Int64) + (own_sl q0).toInt64) + (own_sl q1).toInt64) + (own_sl q2).toInt64) + (own_sl q3).toInt64) (1 : Int32) (0 : Int32) (0 : Int32) (0 : Int32) (0 : Int64) (0 : Int64) (0 : Int64) (0 : Int64) := ⟨E_x11811251, F1251_o, F1251_oc, F1251_st, F1251_sc, F1251_bt, F1251_bc, F1251_ch, F1251_lst, F1251_ro, F1251_rs, F1251_rb, F1251_rch, F1251_ob, F1251_sb, F1251_bb⟩
        refine Own.Sit.callV hG S1250 hx hEL (as := [(.long (3 : Int64)), (.long (2 : Int64)), (.long (0 : Int64))]) (hW 157 _ rfl) (hW 158 _ rfl) (hW 160 _ rfl) (hW 159 _ rfl) (hW 56 _ rfl) (hW 161 _ rfl) (by decide) E_x11811251 (own_rb3 l Z a0 H x1181  o1223 (6 : Int32) st1223 (4 : Int32) bt1223 ((0 : Int32) + l6) (((((0 : Int64) + (own_sl q0).toInt64) + (own_sl q1).toInt64) + (own_sl q2).toInt64) + (own_sl q3).toInt64) (1 : Int32) (0 : Int32) (0 : Int32) (0 : Int64) w1169 w1171 w1173 w1175 (own_sl q0) (own_sl q1) (own_sl q2) (own_sl q3) B h1250 S1250.old OB1322 ⟨At1250, hOv⟩ N1318 N1319 N1320 N1321 (Nat.le_trans (Nat.le_of_eq hB) (Nat.le_refl _)) (Nat.le_trans (Nat.le_of_eq hB) (Nat.le_trans (Nat.le_of_lt lt_x1181) us1223)) ga_x1181 ga_st1223) own_pdb01bb8 rfl rfl (hz _ rfl) (rest := []) rfl (W := 0) (Own.hw0 rfl rfl) (hb hby at_144) (by decide) (by decide) (by decide) (by decide) (fun v1323 vm1323 T1323 h1323 S1323 C1323 q1323 => ?_)
        obtain ⟨K1323, rfl, OB1323⟩ := q1323
        have J1323 : Own.Stp Z consts_1 vm1250 h1250 vm1323 h1323 [x1181] := ⟨K1323, C1323⟩
        have OC1323 : own_Ob Z h1323 x1181 o1223 (6 : Int32) st1223 (4 : Int32) bt1223 ((0 : Int32) + l6) (((((0 : Int64) + (own_sl q0).toInt64) + (own_sl q1).toInt64) + (own_sl q2).toInt64) + (own_sl q3).toInt64) (1 : Int32) (3 : Int32) (2 : Int32) (0 : Int32) (((0 : Int64) + (own_sl q0).toInt64) + (own_sl q1).toInt64) (0 : Int64) (0 : Int64) (0 : Int64) := OB1323
        obtain ⟨E_x11811324, F1324_o, F1324_oc, F1324_st, F1324_sc, F1324_bt, F1324_bc, F1324_ch, F1324_lst, F1324_ro, F1324_rs, F1324_rb, F1324_rch, F1324_ob, F1324_sb, F1324_bb⟩ := id OC1323
        show G T1323 (mkF m 147 #[iv q0, iv q1, iv q2, iv q3, iv q4, iv q5, iv l6, iv r7, iv f8, rv x1168, .val w1169, .val w1171, .val w1173, .val w1175, .val (.long v14), .second, .val (.long v16), .second, rv x1181, .unset, .unset, .unset] [])
        refine Own.Sit.ldc2 hG S1323 hx (hW 168 _ rfl) rfl (hb hby at_147) ?_
        show G T1323 (mkF m 150 #[iv q0, iv q1, iv q2, iv q3, iv q4, iv q5, iv l6, iv r7, iv f8, rv x1168, .val w1169, .val w1171, .val w1173, .val w1175, .val (.long v14), .second, .val (.long v16), .second, rv x1181, .unset, .unset, .unset] [(.long (3 : Int64))])
        refine hG.st (fun t q => XS.lload S1323.here hx rfl (hb hby at_150) rfl (XS.ladd S1323.here hx rfl (hb hby at_152) rfl (XS.lstore S1323.here hx rfl (hb hby at_153) rfl (l' := #[iv q0, iv q1, iv q2, iv q3, iv q4, iv q5, iv l6, iv r7, iv f8, rv x1168, .val w1169, .val w1171, .val w1173, .val w1175, .val (.long v14), .second, .val (.long v16), .second, rv x1181, .val (.long ((3 : Int64) + v14)), .second, .unset]) rfl (XS.goto S1323.here hx rfl (pc0 := 155) (pc' := 213) rfl (hb hby at_155) (by decide) (by decide) q)))) ?_
        show G T1323 (mkF m 213 #[iv q0, iv q1, iv q2, iv q3, iv q4, iv q5, iv l6, iv r7, iv f8, rv x1168, .val w1169, .val w1171, .val w1173, .val w1175, .val (.long v14), .second, .val (.long v16), .second, rv x1181, .val (.long ((3 : Int64) + v14)), .second, .unset] [])
        obtain ⟨v19, ev19⟩ : ∃ z : Int64, z = ((3 : Int64) + v14) := ⟨_, rfl⟩
        rw [← ev19]
        show G T1323 (mkF m 213 #[iv q0, iv q1, iv q2, iv q3, iv q4, iv q5, iv l6, iv r7, iv f8, rv x1168, .val w1169, .val w1171, .val w1173, .val w1175, .val (.long v14), .second, .val (.long v16), .second, rv x1181, .val (.long v19), .second, .unset] [])
        refine hG.st (fun t q => XS.aload S1323.here hx rfl (hb hby at_213) rfl rfl q) ?_
        show G T1323 (mkF m 215 #[iv q0, iv q1, iv q2, iv q3, iv q4, iv q5, iv l6, iv r7, iv f8, rv x1168, .val w1169, .val w1171, .val w1173, .val w1175, .val (.long v14), .second, .val (.long v16), .second, rv x1181, .val (.long v19), .second, .unset] [(.ref x1181)])
        have OB1325 : own_Ob Z h1323 x1181 o1223 (6 : Int32) st1223 (4 : Int32) bt1223 ((0 : Int32) + l6) (((((0 : Int64) + (own_sl q0).toInt64) + (own_sl q1).toInt64) + (own_sl q2).toInt64) + (own_sl q3).toInt64) (1 : Int32) (3 : Int32) (2 : Int32) (0 : Int32) (((0 : Int64) + (own_sl q0).toInt64) + (own_sl q1).toInt64) (0 : Int64) (0 : Int64) (0 : Int64) := ⟨E_x11811324, F1324_o, F1324_oc, F1324_st, F1324_sc, F1324_bt, F1324_bc, F1324_ch, F1324_lst, F1324_ro, F1324_rs, F1324_rb, F1324_rch, F1324_ob, F1324_sb, F1324_bb⟩
        refine Own.Sit.callV hG S1323 hx hEL (as := []) (hW 150 _ rfl) (hW 151 _ rfl) (hW 153 _ rfl) (hW 152 _ rfl) (hW 56 _ rfl) (hW 154 _ rfl) (by decide) E_x11811324 (own_rsz l Z a0 H x1181 o1223 (6 : Int32) st1223 (4 : Int32) bt1223 ((0 : Int32) + l6) (((((0 : Int64) + (own_sl q0).toInt64) + (own_sl q1).toInt64) + (own_sl q2).toInt64) + (own_sl q3).toInt64) (1 : Int32) (3 : Int32) (2 : Int32) (0 : Int32) (((0 : Int64) + (own_sl q0).toInt64) + (own_sl q1).toInt64) (0 : Int64) (0 : Int64) (0 : Int64) h1323 S1323.old OB1325) own_pd217456 rfl rfl (hz _ rfl) (rest := []) rfl (W := 0) (Own.hw0 rfl rfl) (hb hby at_215) (by decide) (by decide) (by decide) (by decide) (fun v1326 vm1326 T1326 h1326 S1326 C1326 q1326 => ?_)
        obtain ⟨K1326, rfl⟩ := q1326
        have J1326 : Own.Stp Z consts_1 vm1323 h1323 vm1326 h1326 [] := ⟨K1326, C1326⟩
        refine hG.st (fun t q => XS.lload S1326.here hx rfl (hb hby at_218) rfl (XS.lcmp S1326.here hx rfl (hb hby at_220) rfl q)) ?_
        show G T1326 (mkF m 221 #[iv q0, iv q1, iv q2, iv q3, iv q4, iv q5, iv l6, iv r7, iv f8, rv x1168, .val w1169, .val w1171, .val w1173, .val w1175, .val (.long v14), .second, .val (.long v16), .second, rv x1181, .val (.long v19), .second, .unset] [(.int (lcmpW (((3 : Int32) + (0 : Int32)).toInt64 + (((0 : Int64) + (own_sl q0).toInt64) + (own_sl q1).toInt64)) v19))])
        have hva1 : (lcmpW (((3 : Int32) + (0 : Int32)).toInt64 + (((0 : Int64) + (own_sl q0).toInt64) + (own_sl q1).toInt64)) v19) = 0 := own_lc (by rw [ev19, ev14]; exact own_fina1 (own_sl q0) (own_sl q1) (own_sl q2) (own_sl q3) l6 hl6)
        refine hG.st (fun t q => XS.ifNo S1326.here hx rfl (hb hby at_221) rfl ((if0 _ _).trans (teq (hva1 : (lcmpW (((3 : Int32) + (0 : Int32)).toInt64 + (((0 : Int64) + (own_sl q0).toInt64) + (own_sl q1).toInt64)) v19) = (0 : Int32))).2) (XS.iconst S1326.here hx rfl (hb hby at_224) (XS.goto S1326.here hx rfl (pc0 := 225) (pc' := 229) rfl (hb hby at_225) (by decide) (by decide) (XS.istore S1326.here hx rfl (hb hby at_229) rfl (l' := #[iv q0, iv q1, iv q2, iv q3, iv q4, iv q5, iv l6, iv r7, iv f8, rv x1168, .val w1169, .val w1171, .val w1173, .val w1175, .val (.long v14), .second, .val (.long v16), .second, rv x1181, .val (.long v19), .second, iv 1]) rfl (XS.iload S1326.here hx rfl (hb hby at_231) rfl q))))) ?_
        show G T1326 (mkF m 233 #[iv q0, iv q1, iv q2, iv q3, iv q4, iv q5, iv l6, iv r7, iv f8, rv x1168, .val w1169, .val w1171, .val w1173, .val w1175, .val (.long v14), .second, .val (.long v16), .second, rv x1181, .val (.long v19), .second, iv 1] [(.int f8)])
        by_cases hc233 : f8 = (0 : Int32)
        ·
          refine hG.st (fun t q => XS.ifYes S1326.here hx rfl (pc0 := 233) (pc' := 275) rfl (hb hby at_233) rfl ((if0 _ _).trans (teq hc233).1) (by decide) (by decide) (XS.iload S1326.here hx rfl (hb hby at_275) rfl q)) ?_
          show G T1326 (mkF m 277 #[iv q0, iv q1, iv q2, iv q3, iv q4, iv q5, iv l6, iv r7, iv f8, rv x1168, .val w1169, .val w1171, .val w1173, .val w1175, .val (.long v14), .second, .val (.long v16), .second, rv x1181, .val (.long v19), .second, iv 1] [(.int 1)])
          have J1327 : Own.Stp Z consts_1 vm0 h0 vm1167 h1168 [] := Own.Stp.trans J1167 J1168 (all0) all0
          have J1328 : Own.Stp Z consts_1 vm0 h0 vm1169 h1169 [] := Own.Stp.trans J1327 J1169 (all0) all0
          have J1329 : Own.Stp Z consts_1 vm0 h0 vm1171 h1171 [] := Own.Stp.trans J1328 J1171 (all0) all0
          have J1330 : Own.Stp Z consts_1 vm0 h0 vm1173 h1173 [] := Own.Stp.trans J1329 J1173 (all0) all0
          have J1331 : Own.Stp Z consts_1 vm0 h0 vm1175 h1175 [] := Own.Stp.trans J1330 J1175 (all0) all0
          have J1332 : Own.Stp Z consts_1 vm0 h0 vm1177 h1177 [] := Own.Stp.trans J1331 J1177 (all0) all0
          have J1333 : Own.Stp Z consts_1 vm0 h0 vm1178 h1178 [] := Own.Stp.trans J1332 J1178 (all0) all0
          have J1334 : Own.Stp Z consts_1 vm0 h0 vm1179 h1179 [] := Own.Stp.trans J1333 J1179 (all0) all0
          have J1335 : Own.Stp Z consts_1 vm0 h0 vm1180 h1180 [] := Own.Stp.trans J1334 J1180 (all0) all0
          have J1336 : Own.Stp Z consts_1 vm0 h0 vm1180 h1181 [] := Own.Stp.trans J1335 J1181 (all0) all0
          have J1337 : Own.Stp Z consts_1 vm0 h0 vm1223 h1223 [] := Own.Stp.trans J1336 J1223 (all0) (allS (Or.inr (Nat.le_trans J1335.1.1 (Nat.le_of_eq g_x1181.symm))) all0)
          have J1338 : Own.Stp Z consts_1 vm0 h0 vm1228 h1228 [] := Own.Stp.trans J1337 J1228 (all0) (allS (Or.inr (Nat.le_trans J1335.1.1 (Nat.le_of_eq g_x1181.symm))) (allS (Or.inr (Nat.le_trans J1336.1.1 uo1223)) (allS (Or.inr (Nat.le_trans J1336.1.1 us1223)) all0)))
          have J1339 : Own.Stp Z consts_1 vm0 h0 vm1243 h1243 [] := Own.Stp.trans J1338 J1243 (all0) (allS (Or.inr (Nat.le_trans J1335.1.1 (Nat.le_of_eq g_x1181.symm))) (allS (Or.inr (Nat.le_trans J1336.1.1 uo1223)) (allS (Or.inr (Nat.le_trans J1336.1.1 ub1223)) all0)))
          have J1340 : Own.Stp Z consts_1 vm0 h0 vm1250 h1250 [] := Own.Stp.trans J1339 J1250 (all0) (allS (Or.inr (Nat.le_trans J1335.1.1 (Nat.le_of_eq g_x1181.symm))) (allS (Or.inr (Nat.le_trans J1336.1.1 uo1223)) (allS (Or.inr (Nat.le_trans J1336.1.1 us1223)) all0)))
          have J1341 : Own.Stp Z consts_1 vm0 h0 vm1323 h1323 [] := Own.Stp.trans J1340 J1323 (all0) (allS (Or.inr (Nat.le_trans J1335.1.1 (Nat.le_of_eq g_x1181.symm))) all0)
          have J1342 : Own.Stp Z consts_1 vm0 h0 vm1326 h1326 [] := Own.Stp.trans J1341 J1326 (all0) all0
          exact Own.Sit.retN hR S1326 hx (t := .boolean) hret (by simp) (hb hby at_277) (by decide) (by decide) ⟨J1342.1, rfl⟩
        ·
          refine hG.st (fun t q => XS.ifNo S1326.here hx rfl (hb hby at_233) rfl ((if0 _ _).trans (feq hc233).1) (XS.aload S1326.here hx rfl (hb hby at_236) rfl rfl q)) ?_
          show G T1326 (mkF m 238 #[iv q0, iv q1, iv q2, iv q3, iv q4, iv q5, iv l6, iv r7, iv f8, rv x1168, .val w1169, .val w1171, .val w1173, .val w1175, .val (.long v14), .second, .val (.long v16), .second, rv x1181, .val (.long v19), .second, iv 1] [(.ref x1181)])
          have J1343 : Own.Stp Z consts_1 vm1250 h1250 vm1326 h1326 [x1181] := Own.Stp.trans J1323 J1326 (allS (List.mem_of_getElem? (i := 0) rfl) (all0)) all0
          have N1344 := own_NS.stp N1318 J1343 (allS (Nat.le_trans (Nat.le_of_eq hB) (Nat.le_refl _)) all0)
          have N1345 := own_NS.stp N1319 J1343 (allS (Nat.le_trans (Nat.le_of_eq hB) (Nat.le_refl _)) all0)
          have N1346 := own_NS.stp N1320 J1343 (allS (Nat.le_trans (Nat.le_of_eq hB) (Nat.le_refl _)) all0)
          have N1347 := own_NS.stp N1321 J1343 (allS (Nat.le_trans (Nat.le_of_eq hB) (Nat.le_refl _)) all0)
          have E1349 := J1326.exa E_x11811324
          have F1350 := J1326.fld F1324_o nin0
          have F1351 := J1326.fld F1324_oc nin0
          have F1352 := J1326.fld F1324_st nin0
          have F1353 := J1326.fld F1324_sc nin0
          have F1354 := J1326.fld F1324_bt nin0
          have F1355 := J1326.fld F1324_bc nin0
          have F1356 := J1326.fld F1324_ch nin0
          have F1357 := J1326.fld F1324_lst nin0
          have F1358 := J1326.fld F1324_ro nin0
          have F1359 := J1326.fld F1324_rs nin0
          have F1360 := J1326.fld F1324_rb nin0
          have F1361 := J1326.fld F1324_rch nin0
          have F1362 := J1326.fld F1324_ob nin0
          have F1363 := J1326.fld F1324_sb nin0
          have F1364 := J1326.fld F1324_bb nin0
          have OB1348 : own_Ob Z h1326 x1181 o1223 (6 : Int32) st1223 (4 : Int32) bt1223 ((0 : Int32) + l6) (((((0 : Int64) + (own_sl q0).toInt64) + (own_sl q1).toInt64) + (own_sl q2).toInt64) + (own_sl q3).toInt64) (1 : Int32) (3 : Int32) (2 : Int32) (0 : Int32) (((0 : Int64) + (own_sl q0).toInt64) + (own_sl q1).toInt64) (0 : Int64) (0 : Int64) (0 : Int64) := ⟨E1349, F1350, F1351, F1352, F1353, F1354, F1355, F1356, F1357, F1358, F1359, F1360, F1361, F1362, F1363, F1364⟩
          have J1366 : Own.Stp Z consts_1 vm1180 h1181 vm1250 h1250 [x1181] := Own.Stp.trans J1246 J1250 (allS (List.mem_of_getElem? (i := 0) rfl) (all0)) (allS (Or.inl (List.mem_of_getElem? (i := 0) rfl)) (allS (Or.inr uo1223) (allS (Or.inr us1223) all0)))
          have V1365 := J1343.arv At1250 (ninS (Ne.symm (Exa.neArv (J1366.exa E1181) At1250 (hW 55 _ rfl))) nin0)
          refine Own.Sit.callV hG S1326 hx hEL (as := []) (hW 132 _ rfl) (hW 133 _ rfl) (hW 135 _ rfl) (hW 134 _ rfl) (hW 56 _ rfl) (hW 136 _ rfl) (by decide) E1349 (own_rel2 l Z a0 H x1181  o1223 st1223 bt1223 ((0 : Int32) + l6) (((((0 : Int64) + (own_sl q0).toInt64) + (own_sl q1).toInt64) + (own_sl q2).toInt64) + (own_sl q3).toInt64) (1 : Int32) (3 : Int32) (0 : Int32) (((0 : Int64) + (own_sl q0).toInt64) + (own_sl q1).toInt64) (0 : Int64) (0 : Int64) (0 : Int64) w1169 w1171 w1173 w1175 (own_sl q0) (own_sl q1) (own_sl q2) (own_sl q3) B h1326 S1326.old OB1348 ⟨V1365, hOv⟩ N1344 N1345 N1346 N1347 (Nat.le_trans (Nat.le_of_eq hB) (Nat.le_refl _)) (Nat.le_trans (Nat.le_of_eq hB) (Nat.le_trans (Nat.le_of_lt lt_x1181) us1223)) ga_x1181 ga_st1223) own_pd62febe rfl rfl (hz _ rfl) (rest := []) rfl (W := 0) (Own.hw0 rfl rfl) (hb hby at_238) (by decide) (by decide) (by decide) (by decide) (fun v1367 vm1367 T1367 h1367 S1367 C1367 q1367 => ?_)
          obtain ⟨K1367, rfl, OB1367⟩ := q1367
          have J1367 : Own.Stp Z consts_1 vm1326 h1326 vm1367 h1367 [x1181] := ⟨K1367, C1367⟩
          have OC1367 : own_Ob Z h1367 x1181 o1223 (6 : Int32) st1223 (4 : Int32) bt1223 ((0 : Int32) + l6) (((((0 : Int64) + (own_sl q0).toInt64) + (own_sl q1).toInt64) + (own_sl q2).toInt64) + (own_sl q3).toInt64) (1 : Int32) (6 : Int32) (4 : Int32) ((0 : Int32) + l6) (((((0 : Int64) + (own_sl q0).toInt64) + (own_sl q1).toInt64) + (own_sl q2).toInt64) + (own_sl q3).toInt64) (0 : Int64) (0 : Int64) (0 : Int64) := OB1367
          obtain ⟨E_x11811368, F1368_o, F1368_oc, F1368_st, F1368_sc, F1368_bt, F1368_bc, F1368_ch, F1368_lst, F1368_ro, F1368_rs, F1368_rb, F1368_rch, F1368_ob, F1368_sb, F1368_bb⟩ := id OC1367
          refine hG.st (fun t q => XS.iload S1367.here hx rfl (hb hby at_241) rfl (XS.ifNo S1367.here hx rfl (hb hby at_243) rfl ((if0 _ _).trans (feq (by decide : ¬ ((1 : Int32) = (0 : Int32)))).1) (XS.aload S1367.here hx rfl (hb hby at_246) rfl rfl q))) ?_
          show G T1367 (mkF m 248 #[iv q0, iv q1, iv q2, iv q3, iv q4, iv q5, iv l6, iv r7, iv f8, rv x1168, .val w1169, .val w1171, .val w1173, .val w1175, .val (.long v14), .second, .val (.long v16), .second, rv x1181, .val (.long v19), .second, iv 1] [(.ref x1181)])
          have OB1369 : own_Ob Z h1367 x1181 o1223 (6 : Int32) st1223 (4 : Int32) bt1223 ((0 : Int32) + l6) (((((0 : Int64) + (own_sl q0).toInt64) + (own_sl q1).toInt64) + (own_sl q2).toInt64) + (own_sl q3).toInt64) (1 : Int32) (6 : Int32) (4 : Int32) ((0 : Int32) + l6) (((((0 : Int64) + (own_sl q0).toInt64) + (own_sl q1).toInt64) + (own_sl q2).toInt64) + (own_sl q3).toInt64) (0 : Int64) (0 : Int64) (0 : Int64) := ⟨E_x11811368, F1368_o, F1368_oc, F1368_st, F1368_sc, F1368_bt, F1368_bc, F1368_ch, F1368_lst, F1368_ro, F1368_rs, F1368_rb, F1368_rch, F1368_ob, F1368_sb, F1368_bb⟩
          refine Own.Sit.callV hG S1367 hx hEL (as := []) (hW 150 _ rfl) (hW 151 _ rfl) (hW 153 _ rfl) (hW 152 _ rfl) (hW 56 _ rfl) (hW 154 _ rfl) (by decide) E_x11811368 (own_rsz l Z a0 H x1181 o1223 (6 : Int32) st1223 (4 : Int32) bt1223 ((0 : Int32) + l6) (((((0 : Int64) + (own_sl q0).toInt64) + (own_sl q1).toInt64) + (own_sl q2).toInt64) + (own_sl q3).toInt64) (1 : Int32) (6 : Int32) (4 : Int32) ((0 : Int32) + l6) (((((0 : Int64) + (own_sl q0).toInt64) + (own_sl q1).toInt64) + (own_sl q2).toInt64) + (own_sl q3).toInt64) (0 : Int64) (0 : Int64) (0 : Int64) h1367 S1367.old OB1369) own_pd217456 rfl rfl (hz _ rfl) (rest := []) rfl (W := 0) (Own.hw0 rfl rfl) (hb hby at_248) (by decide) (by decide) (by decide) (by decide) (fun v1370 vm1370 T1370 h1370 S1370 C1370 q1370 => ?_)
          obtain ⟨K1370, rfl⟩ := q1370
          have J1370 : Own.Stp Z consts_1 vm1367 h1367 vm1370 h1370 [] := ⟨K1370, C1370⟩
          show G T1370 (mkF m 251 #[iv q0, iv q1, iv q2, iv q3, iv q4, iv q5, iv l6, iv r7, iv f8, rv x1168, .val w1169, .val w1171, .val w1173, .val w1175, .val (.long v14), .second, .val (.long v16), .second, rv x1181, .val (.long v19), .second, iv 1] [(.long (((6 : Int32) + ((0 : Int32) + l6)).toInt64 + (((((0 : Int64) + (own_sl q0).toInt64) + (own_sl q1).toInt64) + (own_sl q2).toInt64) + (own_sl q3).toInt64)))])
          refine Own.Sit.ldc2 hG S1370 hx (hW 149 _ rfl) rfl (hb hby at_251) ?_
          show G T1370 (mkF m 254 #[iv q0, iv q1, iv q2, iv q3, iv q4, iv q5, iv l6, iv r7, iv f8, rv x1168, .val w1169, .val w1171, .val w1173, .val w1175, .val (.long v14), .second, .val (.long v16), .second, rv x1181, .val (.long v19), .second, iv 1] [(.long (6 : Int64)), (.long (((6 : Int32) + ((0 : Int32) + l6)).toInt64 + (((((0 : Int64) + (own_sl q0).toInt64) + (own_sl q1).toInt64) + (own_sl q2).toInt64) + (own_sl q3).toInt64)))])
          refine hG.st (fun t q => XS.iload S1370.here hx rfl (hb hby at_254) rfl (XS.i2l S1370.here hx rfl (hb hby at_256) rfl (XS.ladd S1370.here hx rfl (hb hby at_257) rfl (XS.lload S1370.here hx rfl (hb hby at_258) rfl (XS.ladd S1370.here hx rfl (hb hby at_260) rfl (XS.lload S1370.here hx rfl (hb hby at_261) rfl q)))))) ?_
          show G T1370 (mkF m 263 #[iv q0, iv q1, iv q2, iv q3, iv q4, iv q5, iv l6, iv r7, iv f8, rv x1168, .val w1169, .val w1171, .val w1173, .val w1175, .val (.long v14), .second, .val (.long v16), .second, rv x1181, .val (.long v19), .second, iv 1] [(.long v16), (.long (((6 : Int64) + (l6.toInt64)) + v14)), (.long (((6 : Int32) + ((0 : Int32) + l6)).toInt64 + (((((0 : Int64) + (own_sl q0).toInt64) + (own_sl q1).toInt64) + (own_sl q2).toInt64) + (own_sl q3).toInt64)))])
          refine hG.st (fun t q => XS.ladd S1370.here hx rfl (hb hby at_263) rfl (XS.lcmp S1370.here hx rfl (hb hby at_264) rfl q)) ?_
          show G T1370 (mkF m 265 #[iv q0, iv q1, iv q2, iv q3, iv q4, iv q5, iv l6, iv r7, iv f8, rv x1168, .val w1169, .val w1171, .val w1173, .val w1175, .val (.long v14), .second, .val (.long v16), .second, rv x1181, .val (.long v19), .second, iv 1] [(.int (lcmpW (((6 : Int32) + ((0 : Int32) + l6)).toInt64 + (((((0 : Int64) + (own_sl q0).toInt64) + (own_sl q1).toInt64) + (own_sl q2).toInt64) + (own_sl q3).toInt64)) ((((6 : Int64) + (l6.toInt64)) + v14) + v16)))])
          have hvb1 : (lcmpW (((6 : Int32) + ((0 : Int32) + l6)).toInt64 + (((((0 : Int64) + (own_sl q0).toInt64) + (own_sl q1).toInt64) + (own_sl q2).toInt64) + (own_sl q3).toInt64)) ((((6 : Int64) + (l6.toInt64)) + v14) + v16)) = 0 := own_lc (by rw [ev14, ev16]; exact own_finb1 (own_sl q0) (own_sl q1) (own_sl q2) (own_sl q3) l6 hl6)
          refine hG.st (fun t q => XS.ifNo S1370.here hx rfl (hb hby at_265) rfl ((if0 _ _).trans (teq (hvb1 : (lcmpW (((6 : Int32) + ((0 : Int32) + l6)).toInt64 + (((((0 : Int64) + (own_sl q0).toInt64) + (own_sl q1).toInt64) + (own_sl q2).toInt64) + (own_sl q3).toInt64)) ((((6 : Int64) + (l6.toInt64)) + v14) + v16)) = (0 : Int32))).2) (XS.iconst S1370.here hx rfl (hb hby at_268) (XS.goto S1370.here hx rfl (pc0 := 269) (pc' := 273) rfl (hb hby at_269) (by decide) (by decide) (XS.istore S1370.here hx rfl (hb hby at_273) rfl (l' := #[iv q0, iv q1, iv q2, iv q3, iv q4, iv q5, iv l6, iv r7, iv f8, rv x1168, .val w1169, .val w1171, .val w1173, .val w1175, .val (.long v14), .second, .val (.long v16), .second, rv x1181, .val (.long v19), .second, iv 1]) rfl (XS.iload S1370.here hx rfl (hb hby at_275) rfl q))))) ?_
          show G T1370 (mkF m 277 #[iv q0, iv q1, iv q2, iv q3, iv q4, iv q5, iv l6, iv r7, iv f8, rv x1168, .val w1169, .val w1171, .val w1173, .val w1175, .val (.long v14), .second, .val (.long v16), .second, rv x1181, .val (.long v19), .second, iv 1] [(.int 1)])
          have J1371 : Own.Stp Z consts_1 vm0 h0 vm1167 h1168 [] := Own.Stp.trans J1167 J1168 (all0) all0
          have J1372 : Own.Stp Z consts_1 vm0 h0 vm1169 h1169 [] := Own.Stp.trans J1371 J1169 (all0) all0
          have J1373 : Own.Stp Z consts_1 vm0 h0 vm1171 h1171 [] := Own.Stp.trans J1372 J1171 (all0) all0
          have J1374 : Own.Stp Z consts_1 vm0 h0 vm1173 h1173 [] := Own.Stp.trans J1373 J1173 (all0) all0
          have J1375 : Own.Stp Z consts_1 vm0 h0 vm1175 h1175 [] := Own.Stp.trans J1374 J1175 (all0) all0
          have J1376 : Own.Stp Z consts_1 vm0 h0 vm1177 h1177 [] := Own.Stp.trans J1375 J1177 (all0) all0
          have J1377 : Own.Stp Z consts_1 vm0 h0 vm1178 h1178 [] := Own.Stp.trans J1376 J1178 (all0) all0
          have J1378 : Own.Stp Z consts_1 vm0 h0 vm1179 h1179 [] := Own.Stp.trans J1377 J1179 (all0) all0
          have J1379 : Own.Stp Z consts_1 vm0 h0 vm1180 h1180 [] := Own.Stp.trans J1378 J1180 (all0) all0
          have J1380 : Own.Stp Z consts_1 vm0 h0 vm1180 h1181 [] := Own.Stp.trans J1379 J1181 (all0) all0
          have J1381 : Own.Stp Z consts_1 vm0 h0 vm1223 h1223 [] := Own.Stp.trans J1380 J1223 (all0) (allS (Or.inr (Nat.le_trans J1379.1.1 (Nat.le_of_eq g_x1181.symm))) all0)
          have J1382 : Own.Stp Z consts_1 vm0 h0 vm1228 h1228 [] := Own.Stp.trans J1381 J1228 (all0) (allS (Or.inr (Nat.le_trans J1379.1.1 (Nat.le_of_eq g_x1181.symm))) (allS (Or.inr (Nat.le_trans J1380.1.1 uo1223)) (allS (Or.inr (Nat.le_trans J1380.1.1 us1223)) all0)))
          have J1383 : Own.Stp Z consts_1 vm0 h0 vm1243 h1243 [] := Own.Stp.trans J1382 J1243 (all0) (allS (Or.inr (Nat.le_trans J1379.1.1 (Nat.le_of_eq g_x1181.symm))) (allS (Or.inr (Nat.le_trans J1380.1.1 uo1223)) (allS (Or.inr (Nat.le_trans J1380.1.1 ub1223)) all0)))
          have J1384 : Own.Stp Z consts_1 vm0 h0 vm1250 h1250 [] := Own.Stp.trans J1383 J1250 (all0) (allS (Or.inr (Nat.le_trans J1379.1.1 (Nat.le_of_eq g_x1181.symm))) (allS (Or.inr (Nat.le_trans J1380.1.1 uo1223)) (allS (Or.inr (Nat.le_trans J1380.1.1 us1223)) all0)))
          have J1385 : Own.Stp Z consts_1 vm0 h0 vm1323 h1323 [] := Own.Stp.trans J1384 J1323 (all0) (allS (Or.inr (Nat.le_trans J1379.1.1 (Nat.le_of_eq g_x1181.symm))) all0)
          have J1386 : Own.Stp Z consts_1 vm0 h0 vm1326 h1326 [] := Own.Stp.trans J1385 J1326 (all0) all0
          have J1387 : Own.Stp Z consts_1 vm0 h0 vm1367 h1367 [] := Own.Stp.trans J1386 J1367 (all0) (allS (Or.inr (Nat.le_trans J1379.1.1 (Nat.le_of_eq g_x1181.symm))) all0)
          have J1388 : Own.Stp Z consts_1 vm0 h0 vm1370 h1370 [] := Own.Stp.trans J1387 J1370 (all0) all0
          exact Own.Sit.retN hR S1370 hx (t := .boolean) hret (by simp) (hb hby at_277) (by decide) (by decide) ⟨J1388.1, rfl⟩
      ·
        refine hG.st (fun t q => XS.icmpYes S1250.here hx rfl (pc0 := 132) (pc' := 158) rfl (hb hby at_132) rfl (feq hc132).2 (by decide) (by decide) (XS.iload S1250.here hx rfl (hb hby at_158) rfl (XS.iconst S1250.here hx rfl (hb hby at_160) q))) ?_
        show G T1250 (mkF m 161 #[iv q0, iv q1, iv q2, iv q3, iv q4, iv q5, iv l6, iv r7, iv f8, rv x1168, .val w1169, .val w1171, .val w1173, .val w1175, .val (.long v14), .second, .val (.long v16), .second, rv x1181, .unset, .unset, .unset] [(.int 2), (.int r7)])
        by_cases hc161 : r7 = (2 : Int32)
        ·
          refine hG.st (fun t q => XS.icmpNo S1250.here hx rfl (hb hby at_161) rfl (teq hc161).2 (XS.aload S1250.here hx rfl (hb hby at_164) rfl rfl q)) ?_
          show G T1250 (mkF m 166 #[iv q0, iv q1, iv q2, iv q3, iv q4, iv q5, iv l6, iv r7, iv f8, rv x1168, .val w1169, .val w1171, .val w1173, .val w1175, .val (.long v14), .second, .val (.long v16), .second, rv x1181, .unset, .unset, .unset] [(.ref x1181)])
          refine Own.Sit.ldc2 hG S1250 hx (hW 155 _ rfl) rfl (hb hby at_166) ?_
          show G T1250 (mkF m 169 #[iv q0, iv q1, iv q2, iv q3, iv q4, iv q5, iv l6, iv r7, iv f8, rv x1168, .val w1169, .val w1171, .val w1173, .val w1175, .val (.long v14), .second, .val (.long v16), .second, rv x1181, .unset, .unset, .unset] [(.long (5 : Int64)), (.ref x1181)])
          refine Own.Sit.ldc2 hG S1250 hx (hW 156 _ rfl) rfl (hb hby at_169) ?_
          show G T1250 (mkF m 172 #[iv q0, iv q1, iv q2, iv q3, iv q4, iv q5, iv l6, iv r7, iv f8, rv x1168, .val w1169, .val w1171, .val w1173, .val w1175, .val (.long v14), .second, .val (.long v16), .second, rv x1181, .unset, .unset, .unset] [(.long (2 : Int64)), (.long (5 : Int64)), (.ref x1181)])
          refine hG.st (fun t q => XS.iload S1250.here hx rfl (hb hby at_172) rfl (XS.i2l S1250.here hx rfl (hb hby at_174) rfl q)) ?_
          show G T1250 (mkF m 175 #[iv q0, iv q1, iv q2, iv q3, iv q4, iv q5, iv l6, iv r7, iv f8, rv x1168, .val w1169, .val w1171, .val w1173, .val w1175, .val (.long v14), .second, .val (.long v16), .second, rv x1181, .unset, .unset, .unset] [(.long (l6.toInt64)), (.long (2 : Int64)), (.long (5 : Int64)), (.ref x1181)])
          have J1389 : Own.Stp Z consts_1 vm1223 h1223 vm1243 h1243 [x1181, o1223, st1223, bt1223] := Own.Stp.trans J1228 J1243 (allS (List.mem_of_getElem? (i := 0) rfl) (allS (List.mem_of_getElem? (i := 1) rfl) (allS (List.mem_of_getElem? (i := 2) rfl) (all0)))) (allS (Or.inl (List.mem_of_getElem? (i := 0) rfl)) (allS (Or.inl (List.mem_of_getElem? (i := 1) rfl)) (allS (Or.inl (List.mem_of_getElem? (i := 3) rfl)) all0)))
          have J1390 : Own.Stp Z consts_1 vm1223 h1223 vm1250 h1250 [x1181, o1223, st1223, bt1223] := Own.Stp.trans J1389 J1250 (allS (List.mem_of_getElem? (i := 0) rfl) (allS (List.mem_of_getElem? (i := 1) rfl) (allS (List.mem_of_getElem? (i := 2) rfl) (allS (List.mem_of_getElem? (i := 3) rfl) (all0))))) (allS (Or.inl (List.mem_of_getElem? (i := 0) rfl)) (allS (Or.inl (List.mem_of_getElem? (i := 1) rfl)) (allS (Or.inl (List.mem_of_getElem? (i := 2) rfl)) all0)))
          have N1391 := own_NS.stp N1225 J1390 (allS (Nat.le_trans (Nat.le_of_eq hB) (Nat.le_refl _)) (allS (Nat.le_trans (Nat.le_of_eq hB) (Nat.le_trans (Nat.le_of_lt lt_x1181) uo1223)) (allS (Nat.le_trans (Nat.le_of_eq hB) (Nat.le_trans (Nat.le_of_lt lt_x1181) us1223)) (allS (Nat.le_trans (Nat.le_of_eq hB) (Nat.le_trans (Nat.le_of_lt lt_x1181) ub1223)) all0))))
          have N1392 := own_NS.stp N1226 J1390 (allS (Nat.le_trans (Nat.le_of_eq hB) (Nat.le_refl _)) (allS (Nat.le_trans (Nat.le_of_eq hB) (Nat.le_trans (Nat.le_of_lt lt_x1181) uo1223)) (allS (Nat.le_trans (Nat.le_of_eq hB) (Nat.le_trans (Nat.le_of_lt lt_x1181) us1223)) (allS (Nat.le_trans (Nat.le_of_eq hB) (Nat.le_trans (Nat.le_of_lt lt_x1181) ub1223)) all0))))
          have N1393 := own_NS.stp N1247 J1250 (allS (Nat.le_trans (Nat.le_of_eq hB) (Nat.le_refl _)) (allS (Nat.le_trans (Nat.le_of_eq hB) (Nat.le_trans (Nat.le_of_lt lt_x1181) uo1223)) (allS (Nat.le_trans (Nat.le_of_eq hB) (Nat.le_trans (Nat.le_of_lt lt_x1181) us1223)) all0)))
          have N1394 := own_NS.stp N1248 J1250 (allS (Nat.le_trans (Nat.le_of_eq hB) (Nat.le_refl _)) (allS (Nat.le_trans (Nat.le_of_eq hB) (Nat.le_trans (Nat.le_of_lt lt_x1181) uo1223)) (allS (Nat.le_trans (Nat.le_of_eq hB) (Nat.le_trans (Nat.le_of_lt lt_x1181) us1223)) all0)))
          have OB1395 : own_Ob Z h1250 x1181 o1223 (6 : Int32) st1223 (4 : Int32) bt1223 ((0 : Int32) + l6) (((((0 : Int64) + (own_sl q0).toInt64) + (own_sl q1).toInt64) + (own_sl q2).toInt64) + (own_sl q3).toInt64) (1 : Int32) (0 : Int32) (0 : Int32) (0 : Int32) (0 : Int64) (0 : Int64) (0 : Int64) (0 : Int64) := ⟨E_x11811251, F1251_o, F1251_oc, F1251_st, F1251_sc, F1251_bt, F1251_bc, F1251_ch, F1251_lst, F1251_ro, F1251_rs, F1251_rb, F1251_rch, F1251_ob, F1251_sb, F1251_bb⟩
          refine Own.Sit.callV hG S1250 hx hEL (as := [(.long (5 : Int64)), (.long (2 : Int64)), (.long (l6.toInt64))]) (hW 157 _ rfl) (hW 158 _ rfl) (hW 160 _ rfl) (hW 159 _ rfl) (hW 56 _ rfl) (hW 161 _ rfl) (by decide) E_x11811251 (own_rb5 l Z a0 H x1181 (l6.toInt64) o1223 (6 : Int32) st1223 (4 : Int32) bt1223 ((0 : Int32) + l6) (((((0 : Int64) + (own_sl q0).toInt64) + (own_sl q1).toInt64) + (own_sl q2).toInt64) + (own_sl q3).toInt64) (1 : Int32) (0 : Int32) (0 : Int32) (0 : Int64) w1169 w1171 w1173 w1175 (own_sl q0) (own_sl q1) (own_sl q2) (own_sl q3) B h1250 S1250.old OB1395 ⟨At1250, hOv⟩ N1391 N1392 N1393 N1394 (Nat.le_trans (Nat.le_of_eq hB) (Nat.le_refl _)) (Nat.le_trans (Nat.le_of_eq hB) (Nat.le_trans (Nat.le_of_lt lt_x1181) us1223)) ga_x1181 ga_st1223) own_pdb01bb8 rfl rfl (hz _ rfl) (rest := []) rfl (W := 0) (Own.hw0 rfl rfl) (hb hby at_175) (by decide) (by decide) (by decide) (by decide) (fun v1396 vm1396 T1396 h1396 S1396 C1396 q1396 => ?_)
          obtain ⟨K1396, rfl, OB1396⟩ := q1396
          have J1396 : Own.Stp Z consts_1 vm1250 h1250 vm1396 h1396 [x1181] := ⟨K1396, C1396⟩
          have OC1396 : own_Ob Z h1396 x1181 o1223 (6 : Int32) st1223 (4 : Int32) bt1223 ((0 : Int32) + l6) (((((0 : Int64) + (own_sl q0).toInt64) + (own_sl q1).toInt64) + (own_sl q2).toInt64) + (own_sl q3).toInt64) (1 : Int32) (5 : Int32) (2 : Int32) (((l6.toInt64) - (0 : Int64)).toInt32) (((0 : Int64) + (own_sl q0).toInt64) + (own_sl q1).toInt64) (0 : Int64) (0 : Int64) (0 : Int64) := OB1396
          obtain ⟨E_x11811397, F1397_o, F1397_oc, F1397_st, F1397_sc, F1397_bt, F1397_bc, F1397_ch, F1397_lst, F1397_ro, F1397_rs, F1397_rb, F1397_rch, F1397_ob, F1397_sb, F1397_bb⟩ := id OC1396
          show G T1396 (mkF m 178 #[iv q0, iv q1, iv q2, iv q3, iv q4, iv q5, iv l6, iv r7, iv f8, rv x1168, .val w1169, .val w1171, .val w1173, .val w1175, .val (.long v14), .second, .val (.long v16), .second, rv x1181, .unset, .unset, .unset] [])
          refine Own.Sit.ldc2 hG S1396 hx (hW 155 _ rfl) rfl (hb hby at_178) ?_
          show G T1396 (mkF m 181 #[iv q0, iv q1, iv q2, iv q3, iv q4, iv q5, iv l6, iv r7, iv f8, rv x1168, .val w1169, .val w1171, .val w1173, .val w1175, .val (.long v14), .second, .val (.long v16), .second, rv x1181, .unset, .unset, .unset] [(.long (5 : Int64))])
          refine hG.st (fun t q => XS.iload S1396.here hx rfl (hb hby at_181) rfl (XS.i2l S1396.here hx rfl (hb hby at_183) rfl (XS.ladd S1396.here hx rfl (hb hby at_184) rfl (XS.lload S1396.here hx rfl (hb hby at_185) rfl (XS.ladd S1396.here hx rfl (hb hby at_187) rfl (XS.lstore S1396.here hx rfl (hb hby at_188) rfl (l' := #[iv q0, iv q1, iv q2, iv q3, iv q4, iv q5, iv l6, iv r7, iv f8, rv x1168, .val w1169, .val w1171, .val w1173, .val w1175, .val (.long v14), .second, .val (.long v16), .second, rv x1181, .val (.long (((5 : Int64) + (l6.toInt64)) + v14)), .second, .unset]) rfl q)))))) ?_
          show G T1396 (mkF m 190 #[iv q0, iv q1, iv q2, iv q3, iv q4, iv q5, iv l6, iv r7, iv f8, rv x1168, .val w1169, .val w1171, .val w1173, .val w1175, .val (.long v14), .second, .val (.long v16), .second, rv x1181, .val (.long (((5 : Int64) + (l6.toInt64)) + v14)), .second, .unset] [])
          refine hG.st (fun t q => XS.goto S1396.here hx rfl (pc0 := 190) (pc' := 213) rfl (hb hby at_190) (by decide) (by decide) q) ?_
          show G T1396 (mkF m 213 #[iv q0, iv q1, iv q2, iv q3, iv q4, iv q5, iv l6, iv r7, iv f8, rv x1168, .val w1169, .val w1171, .val w1173, .val w1175, .val (.long v14), .second, .val (.long v16), .second, rv x1181, .val (.long (((5 : Int64) + (l6.toInt64)) + v14)), .second, .unset] [])
          obtain ⟨v19, ev19⟩ : ∃ z : Int64, z = (((5 : Int64) + (l6.toInt64)) + v14) := ⟨_, rfl⟩
          rw [← ev19]
          show G T1396 (mkF m 213 #[iv q0, iv q1, iv q2, iv q3, iv q4, iv q5, iv l6, iv r7, iv f8, rv x1168, .val w1169, .val w1171, .val w1173, .val w1175, .val (.long v14), .second, .val (.long v16), .second, rv x1181, .val (.long v19), .second, .unset] [])
          refine hG.st (fun t q => XS.aload S1396.here hx rfl (hb hby at_213) rfl rfl q) ?_
          show G T1396 (mkF m 215 #[iv q0, iv q1, iv q2, iv q3, iv q4, iv q5, iv l6, iv r7, iv f8, rv x1168, .val w1169, .val w1171, .val w1173, .val w1175, .val (.long v14), .second, .val (.long v16), .second, rv x1181, .val (.long v19), .second, .unset] [(.ref x1181)])
          have OB1398 : own_Ob Z h1396 x1181 o1223 (6 : Int32) st1223 (4 : Int32) bt1223 ((0 : Int32) + l6) (((((0 : Int64) + (own_sl q0).toInt64) + (own_sl q1).toInt64) + (own_sl q2).toInt64) + (own_sl q3).toInt64) (1 : Int32) (5 : Int32) (2 : Int32) (((l6.toInt64) - (0 : Int64)).toInt32) (((0 : Int64) + (own_sl q0).toInt64) + (own_sl q1).toInt64) (0 : Int64) (0 : Int64) (0 : Int64) := ⟨E_x11811397, F1397_o, F1397_oc, F1397_st, F1397_sc, F1397_bt, F1397_bc, F1397_ch, F1397_lst, F1397_ro, F1397_rs, F1397_rb, F1397_rch, F1397_ob, F1397_sb, F1397_bb⟩
          refine Own.Sit.callV hG S1396 hx hEL (as := []) (hW 150 _ rfl) (hW 151 _ rfl) (hW 153 _ rfl) (hW 152 _ rfl) (hW 56 _ rfl) (hW 154 _ rfl) (by decide) E_x11811397 (own_rsz l Z a0 H x1181 o1223 (6 : Int32) st1223 (4 : Int32) bt1223 ((0 : Int32) + l6) (((((0 : Int64) + (own_sl q0).toInt64) + (own_sl q1).toInt64) + (own_sl q2).toInt64) + (own_sl q3).toInt64) (1 : Int32) (5 : Int32) (2 : Int32) (((l6.toInt64) - (0 : Int64)).toInt32) (((0 : Int64) + (own_sl q0).toInt64) + (own_sl q1).toInt64) (0 : Int64) (0 : Int64) (0 : Int64) h1396 S1396.old OB1398) own_pd217456 rfl rfl (hz _ rfl) (rest := []) rfl (W := 0) (Own.hw0 rfl rfl) (hb hby at_215) (by decide) (by decide) (by decide) (by decide) (fun v1399 vm1399 T1399 h1399 S1399 C1399 q1399 => ?_)
          obtain ⟨K1399, rfl⟩ := q1399
          have J1399 : Own.Stp Z consts_1 vm1396 h1396 vm1399 h1399 [] := ⟨K1399, C1399⟩
          refine hG.st (fun t q => XS.lload S1399.here hx rfl (hb hby at_218) rfl (XS.lcmp S1399.here hx rfl (hb hby at_220) rfl q)) ?_
          show G T1399 (mkF m 221 #[iv q0, iv q1, iv q2, iv q3, iv q4, iv q5, iv l6, iv r7, iv f8, rv x1168, .val w1169, .val w1171, .val w1173, .val w1175, .val (.long v14), .second, .val (.long v16), .second, rv x1181, .val (.long v19), .second, .unset] [(.int (lcmpW (((5 : Int32) + (((l6.toInt64) - (0 : Int64)).toInt32)).toInt64 + (((0 : Int64) + (own_sl q0).toInt64) + (own_sl q1).toInt64)) v19))])
          have hva2 : (lcmpW (((5 : Int32) + (((l6.toInt64) - (0 : Int64)).toInt32)).toInt64 + (((0 : Int64) + (own_sl q0).toInt64) + (own_sl q1).toInt64)) v19) = 0 := own_lc (by rw [ev19, ev14]; exact own_fina2 (own_sl q0) (own_sl q1) (own_sl q2) (own_sl q3) l6 hl6)
          refine hG.st (fun t q => XS.ifNo S1399.here hx rfl (hb hby at_221) rfl ((if0 _ _).trans (teq (hva2 : (lcmpW (((5 : Int32) + (((l6.toInt64) - (0 : Int64)).toInt32)).toInt64 + (((0 : Int64) + (own_sl q0).toInt64) + (own_sl q1).toInt64)) v19) = (0 : Int32))).2) (XS.iconst S1399.here hx rfl (hb hby at_224) (XS.goto S1399.here hx rfl (pc0 := 225) (pc' := 229) rfl (hb hby at_225) (by decide) (by decide) (XS.istore S1399.here hx rfl (hb hby at_229) rfl (l' := #[iv q0, iv q1, iv q2, iv q3, iv q4, iv q5, iv l6, iv r7, iv f8, rv x1168, .val w1169, .val w1171, .val w1173, .val w1175, .val (.long v14), .second, .val (.long v16), .second, rv x1181, .val (.long v19), .second, iv 1]) rfl (XS.iload S1399.here hx rfl (hb hby at_231) rfl q))))) ?_
          show G T1399 (mkF m 233 #[iv q0, iv q1, iv q2, iv q3, iv q4, iv q5, iv l6, iv r7, iv f8, rv x1168, .val w1169, .val w1171, .val w1173, .val w1175, .val (.long v14), .second, .val (.long v16), .second, rv x1181, .val (.long v19), .second, iv 1] [(.int f8)])
          by_cases hc233 : f8 = (0 : Int32)
          ·
            refine hG.st (fun t q => XS.ifYes S1399.here hx rfl (pc0 := 233) (pc' := 275) rfl (hb hby at_233) rfl ((if0 _ _).trans (teq hc233).1) (by decide) (by decide) (XS.iload S1399.here hx rfl (hb hby at_275) rfl q)) ?_
            show G T1399 (mkF m 277 #[iv q0, iv q1, iv q2, iv q3, iv q4, iv q5, iv l6, iv r7, iv f8, rv x1168, .val w1169, .val w1171, .val w1173, .val w1175, .val (.long v14), .second, .val (.long v16), .second, rv x1181, .val (.long v19), .second, iv 1] [(.int 1)])
            have J1400 : Own.Stp Z consts_1 vm0 h0 vm1167 h1168 [] := Own.Stp.trans J1167 J1168 (all0) all0
            have J1401 : Own.Stp Z consts_1 vm0 h0 vm1169 h1169 [] := Own.Stp.trans J1400 J1169 (all0) all0
            have J1402 : Own.Stp Z consts_1 vm0 h0 vm1171 h1171 [] := Own.Stp.trans J1401 J1171 (all0) all0
            have J1403 : Own.Stp Z consts_1 vm0 h0 vm1173 h1173 [] := Own.Stp.trans J1402 J1173 (all0) all0
            have J1404 : Own.Stp Z consts_1 vm0 h0 vm1175 h1175 [] := Own.Stp.trans J1403 J1175 (all0) all0
            have J1405 : Own.Stp Z consts_1 vm0 h0 vm1177 h1177 [] := Own.Stp.trans J1404 J1177 (all0) all0
            have J1406 : Own.Stp Z consts_1 vm0 h0 vm1178 h1178 [] := Own.Stp.trans J1405 J1178 (all0) all0
            have J1407 : Own.Stp Z consts_1 vm0 h0 vm1179 h1179 [] := Own.Stp.trans J1406 J1179 (all0) all0
            have J1408 : Own.Stp Z consts_1 vm0 h0 vm1180 h1180 [] := Own.Stp.trans J1407 J1180 (all0) all0
            have J1409 : Own.Stp Z consts_1 vm0 h0 vm1180 h1181 [] := Own.Stp.trans J1408 J1181 (all0) all0
            have J1410 : Own.Stp Z consts_1 vm0 h0 vm1223 h1223 [] := Own.Stp.trans J1409 J1223 (all0) (allS (Or.inr (Nat.le_trans J1408.1.1 (Nat.le_of_eq g_x1181.symm))) all0)
            have J1411 : Own.Stp Z consts_1 vm0 h0 vm1228 h1228 [] := Own.Stp.trans J1410 J1228 (all0) (allS (Or.inr (Nat.le_trans J1408.1.1 (Nat.le_of_eq g_x1181.symm))) (allS (Or.inr (Nat.le_trans J1409.1.1 uo1223)) (allS (Or.inr (Nat.le_trans J1409.1.1 us1223)) all0)))
            have J1412 : Own.Stp Z consts_1 vm0 h0 vm1243 h1243 [] := Own.Stp.trans J1411 J1243 (all0) (allS (Or.inr (Nat.le_trans J1408.1.1 (Nat.le_of_eq g_x1181.symm))) (allS (Or.inr (Nat.le_trans J1409.1.1 uo1223)) (allS (Or.inr (Nat.le_trans J1409.1.1 ub1223)) all0)))
            have J1413 : Own.Stp Z consts_1 vm0 h0 vm1250 h1250 [] := Own.Stp.trans J1412 J1250 (all0) (allS (Or.inr (Nat.le_trans J1408.1.1 (Nat.le_of_eq g_x1181.symm))) (allS (Or.inr (Nat.le_trans J1409.1.1 uo1223)) (allS (Or.inr (Nat.le_trans J1409.1.1 us1223)) all0)))
            have J1414 : Own.Stp Z consts_1 vm0 h0 vm1396 h1396 [] := Own.Stp.trans J1413 J1396 (all0) (allS (Or.inr (Nat.le_trans J1408.1.1 (Nat.le_of_eq g_x1181.symm))) all0)
            have J1415 : Own.Stp Z consts_1 vm0 h0 vm1399 h1399 [] := Own.Stp.trans J1414 J1399 (all0) all0
            exact Own.Sit.retN hR S1399 hx (t := .boolean) hret (by simp) (hb hby at_277) (by decide) (by decide) ⟨J1415.1, rfl⟩
          ·
            refine hG.st (fun t q => XS.ifNo S1399.here hx rfl (hb hby at_233) rfl ((if0 _ _).trans (feq hc233).1) (XS.aload S1399.here hx rfl (hb hby at_236) rfl rfl q)) ?_
            show G T1399 (mkF m 238 #[iv q0, iv q1, iv q2, iv q3, iv q4, iv q5, iv l6, iv r7, iv f8, rv x1168, .val w1169, .val w1171, .val w1173, .val w1175, .val (.long v14), .second, .val (.long v16), .second, rv x1181, .val (.long v19), .second, iv 1] [(.ref x1181)])
            have J1416 : Own.Stp Z consts_1 vm1250 h1250 vm1399 h1399 [x1181] := Own.Stp.trans J1396 J1399 (allS (List.mem_of_getElem? (i := 0) rfl) (all0)) all0
            have N1417 := own_NS.stp N1391 J1416 (allS (Nat.le_trans (Nat.le_of_eq hB) (Nat.le_refl _)) all0)
            have N1418 := own_NS.stp N1392 J1416 (allS (Nat.le_trans (Nat.le_of_eq hB) (Nat.le_refl _)) all0)
            have N1419 := own_NS.stp N1393 J1416 (allS (Nat.le_trans (Nat.le_of_eq hB) (Nat.le_refl _)) all0)
            have N1420 := own_NS.stp N1394 J1416 (allS (Nat.le_trans (Nat.le_of_eq hB) (Nat.le_refl _)) all0)
            have E1422 := J1399.exa E_x11811397
            have F1423 := J1399.fld F1397_o nin0
            have F1424 := J1399.fld F1397_oc nin0
            have F1425 := J1399.fld F1397_st nin0
            have F1426 := J1399.fld F1397_sc nin0
            have F1427 := J1399.fld F1397_bt nin0
            have F1428 := J1399.fld F1397_bc nin0
            have F1429 := J1399.fld F1397_ch nin0
            have F1430 := J1399.fld F1397_lst nin0
            have F1431 := J1399.fld F1397_ro nin0
            have F1432 := J1399.fld F1397_rs nin0
            have F1433 := J1399.fld F1397_rb nin0
            have F1434 := J1399.fld F1397_rch nin0
            have F1435 := J1399.fld F1397_ob nin0
            have F1436 := J1399.fld F1397_sb nin0
            have F1437 := J1399.fld F1397_bb nin0
            have OB1421 : own_Ob Z h1399 x1181 o1223 (6 : Int32) st1223 (4 : Int32) bt1223 ((0 : Int32) + l6) (((((0 : Int64) + (own_sl q0).toInt64) + (own_sl q1).toInt64) + (own_sl q2).toInt64) + (own_sl q3).toInt64) (1 : Int32) (5 : Int32) (2 : Int32) (((l6.toInt64) - (0 : Int64)).toInt32) (((0 : Int64) + (own_sl q0).toInt64) + (own_sl q1).toInt64) (0 : Int64) (0 : Int64) (0 : Int64) := ⟨E1422, F1423, F1424, F1425, F1426, F1427, F1428, F1429, F1430, F1431, F1432, F1433, F1434, F1435, F1436, F1437⟩
            have J1439 : Own.Stp Z consts_1 vm1180 h1181 vm1250 h1250 [x1181] := Own.Stp.trans J1246 J1250 (allS (List.mem_of_getElem? (i := 0) rfl) (all0)) (allS (Or.inl (List.mem_of_getElem? (i := 0) rfl)) (allS (Or.inr uo1223) (allS (Or.inr us1223) all0)))
            have V1438 := J1416.arv At1250 (ninS (Ne.symm (Exa.neArv (J1439.exa E1181) At1250 (hW 55 _ rfl))) nin0)
            refine Own.Sit.callV hG S1399 hx hEL (as := []) (hW 132 _ rfl) (hW 133 _ rfl) (hW 135 _ rfl) (hW 134 _ rfl) (hW 56 _ rfl) (hW 136 _ rfl) (by decide) E1422 (own_rel2 l Z a0 H x1181  o1223 st1223 bt1223 ((0 : Int32) + l6) (((((0 : Int64) + (own_sl q0).toInt64) + (own_sl q1).toInt64) + (own_sl q2).toInt64) + (own_sl q3).toInt64) (1 : Int32) (5 : Int32) (((l6.toInt64) - (0 : Int64)).toInt32) (((0 : Int64) + (own_sl q0).toInt64) + (own_sl q1).toInt64) (0 : Int64) (0 : Int64) (0 : Int64) w1169 w1171 w1173 w1175 (own_sl q0) (own_sl q1) (own_sl q2) (own_sl q3) B h1399 S1399.old OB1421 ⟨V1438, hOv⟩ N1417 N1418 N1419 N1420 (Nat.le_trans (Nat.le_of_eq hB) (Nat.le_refl _)) (Nat.le_trans (Nat.le_of_eq hB) (Nat.le_trans (Nat.le_of_lt lt_x1181) us1223)) ga_x1181 ga_st1223) own_pd62febe rfl rfl (hz _ rfl) (rest := []) rfl (W := 0) (Own.hw0 rfl rfl) (hb hby at_238) (by decide) (by decide) (by decide) (by decide) (fun v1440 vm1440 T1440 h1440 S1440 C1440 q1440 => ?_)
            obtain ⟨K1440, rfl, OB1440⟩ := q1440
            have J1440 : Own.Stp Z consts_1 vm1399 h1399 vm1440 h1440 [x1181] := ⟨K1440, C1440⟩
            have OC1440 : own_Ob Z h1440 x1181 o1223 (6 : Int32) st1223 (4 : Int32) bt1223 ((0 : Int32) + l6) (((((0 : Int64) + (own_sl q0).toInt64) + (own_sl q1).toInt64) + (own_sl q2).toInt64) + (own_sl q3).toInt64) (1 : Int32) (6 : Int32) (4 : Int32) ((0 : Int32) + l6) (((((0 : Int64) + (own_sl q0).toInt64) + (own_sl q1).toInt64) + (own_sl q2).toInt64) + (own_sl q3).toInt64) (0 : Int64) (0 : Int64) (0 : Int64) := OB1440
            obtain ⟨E_x11811441, F1441_o, F1441_oc, F1441_st, F1441_sc, F1441_bt, F1441_bc, F1441_ch, F1441_lst, F1441_ro, F1441_rs, F1441_rb, F1441_rch, F1441_ob, F1441_sb, F1441_bb⟩ := id OC1440
            refine hG.st (fun t q => XS.iload S1440.here hx rfl (hb hby at_241) rfl (XS.ifNo S1440.here hx rfl (hb hby at_243) rfl ((if0 _ _).trans (feq (by decide : ¬ ((1 : Int32) = (0 : Int32)))).1) (XS.aload S1440.here hx rfl (hb hby at_246) rfl rfl q))) ?_
            show G T1440 (mkF m 248 #[iv q0, iv q1, iv q2, iv q3, iv q4, iv q5, iv l6, iv r7, iv f8, rv x1168, .val w1169, .val w1171, .val w1173, .val w1175, .val (.long v14), .second, .val (.long v16), .second, rv x1181, .val (.long v19), .second, iv 1] [(.ref x1181)])
            have OB1442 : own_Ob Z h1440 x1181 o1223 (6 : Int32) st1223 (4 : Int32) bt1223 ((0 : Int32) + l6) (((((0 : Int64) + (own_sl q0).toInt64) + (own_sl q1).toInt64) + (own_sl q2).toInt64) + (own_sl q3).toInt64) (1 : Int32) (6 : Int32) (4 : Int32) ((0 : Int32) + l6) (((((0 : Int64) + (own_sl q0).toInt64) + (own_sl q1).toInt64) + (own_sl q2).toInt64) + (own_sl q3).toInt64) (0 : Int64) (0 : Int64) (0 : Int64) := ⟨E_x11811441, F1441_o, F1441_oc, F1441_st, F1441_sc, F1441_bt, F1441_bc, F1441_ch, F1441_lst, F1441_ro, F1441_rs, F1441_rb, F1441_rch, F1441_ob, F1441_sb, F1441_bb⟩
            refine Own.Sit.callV hG S1440 hx hEL (as := []) (hW 150 _ rfl) (hW 151 _ rfl) (hW 153 _ rfl) (hW 152 _ rfl) (hW 56 _ rfl) (hW 154 _ rfl) (by decide) E_x11811441 (own_rsz l Z a0 H x1181 o1223 (6 : Int32) st1223 (4 : Int32) bt1223 ((0 : Int32) + l6) (((((0 : Int64) + (own_sl q0).toInt64) + (own_sl q1).toInt64) + (own_sl q2).toInt64) + (own_sl q3).toInt64) (1 : Int32) (6 : Int32) (4 : Int32) ((0 : Int32) + l6) (((((0 : Int64) + (own_sl q0).toInt64) + (own_sl q1).toInt64) + (own_sl q2).toInt64) + (own_sl q3).toInt64) (0 : Int64) (0 : Int64) (0 : Int64) h1440 S1440.old OB1442) own_pd217456 rfl rfl (hz _ rfl) (rest := []) rfl (W := 0) (Own.hw0 rfl rfl) (hb hby at_248) (by decide) (by decide) (by decide) (by decide) (fun v1443 vm1443 T1443 h1443 S1443 C1443 q1443 => ?_)
            obtain ⟨K1443, rfl⟩ := q1443
            have J1443 : Own.Stp Z consts_1 vm1440 h1440 vm1443 h1443 [] := ⟨K1443, C1443⟩
            show G T1443 (mkF m 251 #[iv q0, iv q1, iv q2, iv q3, iv q4, iv q5, iv l6, iv r7, iv f8, rv x1168, .val w1169, .val w1171, .val w1173, .val w1175, .val (.long v14), .second, .val (.long v16), .second, rv x1181, .val (.long v19), .second, iv 1] [(.long (((6 : Int32) + ((0 : Int32) + l6)).toInt64 + (((((0 : Int64) + (own_sl q0).toInt64) + (own_sl q1).toInt64) + (own_sl q2).toInt64) + (own_sl q3).toInt64)))])
            refine Own.Sit.ldc2 hG S1443 hx (hW 149 _ rfl) rfl (hb hby at_251) ?_
            show G T1443 (mkF m 254 #[iv q0, iv q1, iv q2, iv q3, iv q4, iv q5, iv l6, iv r7, iv f8, rv x1168, .val w1169, .val w1171, .val w1173, .val w1175, .val (.long v14), .second, .val (.long v16), .second, rv x1181, .val (.long v19), .second, iv 1] [(.long (6 : Int64)), (.long (((6 : Int32) + ((0 : Int32) + l6)).toInt64 + (((((0 : Int64) + (own_sl q0).toInt64) + (own_sl q1).toInt64) + (own_sl q2).toInt64) + (own_sl q3).toInt64)))])
            refine hG.st (fun t q => XS.iload S1443.here hx rfl (hb hby at_254) rfl (XS.i2l S1443.here hx rfl (hb hby at_256) rfl (XS.ladd S1443.here hx rfl (hb hby at_257) rfl (XS.lload S1443.here hx rfl (hb hby at_258) rfl (XS.ladd S1443.here hx rfl (hb hby at_260) rfl (XS.lload S1443.here hx rfl (hb hby at_261) rfl q)))))) ?_
            show G T1443 (mkF m 263 #[iv q0, iv q1, iv q2, iv q3, iv q4, iv q5, iv l6, iv r7, iv f8, rv x1168, .val w1169, .val w1171, .val w1173, .val w1175, .val (.long v14), .second, .val (.long v16), .second, rv x1181, .val (.long v19), .second, iv 1] [(.long v16), (.long (((6 : Int64) + (l6.toInt64)) + v14)), (.long (((6 : Int32) + ((0 : Int32) + l6)).toInt64 + (((((0 : Int64) + (own_sl q0).toInt64) + (own_sl q1).toInt64) + (own_sl q2).toInt64) + (own_sl q3).toInt64)))])
            refine hG.st (fun t q => XS.ladd S1443.here hx rfl (hb hby at_263) rfl (XS.lcmp S1443.here hx rfl (hb hby at_264) rfl q)) ?_
            show G T1443 (mkF m 265 #[iv q0, iv q1, iv q2, iv q3, iv q4, iv q5, iv l6, iv r7, iv f8, rv x1168, .val w1169, .val w1171, .val w1173, .val w1175, .val (.long v14), .second, .val (.long v16), .second, rv x1181, .val (.long v19), .second, iv 1] [(.int (lcmpW (((6 : Int32) + ((0 : Int32) + l6)).toInt64 + (((((0 : Int64) + (own_sl q0).toInt64) + (own_sl q1).toInt64) + (own_sl q2).toInt64) + (own_sl q3).toInt64)) ((((6 : Int64) + (l6.toInt64)) + v14) + v16)))])
            have hvb2 : (lcmpW (((6 : Int32) + ((0 : Int32) + l6)).toInt64 + (((((0 : Int64) + (own_sl q0).toInt64) + (own_sl q1).toInt64) + (own_sl q2).toInt64) + (own_sl q3).toInt64)) ((((6 : Int64) + (l6.toInt64)) + v14) + v16)) = 0 := own_lc (by rw [ev14, ev16]; exact own_finb2 (own_sl q0) (own_sl q1) (own_sl q2) (own_sl q3) l6 hl6)
            refine hG.st (fun t q => XS.ifNo S1443.here hx rfl (hb hby at_265) rfl ((if0 _ _).trans (teq (hvb2 : (lcmpW (((6 : Int32) + ((0 : Int32) + l6)).toInt64 + (((((0 : Int64) + (own_sl q0).toInt64) + (own_sl q1).toInt64) + (own_sl q2).toInt64) + (own_sl q3).toInt64)) ((((6 : Int64) + (l6.toInt64)) + v14) + v16)) = (0 : Int32))).2) (XS.iconst S1443.here hx rfl (hb hby at_268) (XS.goto S1443.here hx rfl (pc0 := 269) (pc' := 273) rfl (hb hby at_269) (by decide) (by decide) (XS.istore S1443.here hx rfl (hb hby at_273) rfl (l' := #[iv q0, iv q1, iv q2, iv q3, iv q4, iv q5, iv l6, iv r7, iv f8, rv x1168, .val w1169, .val w1171, .val w1173, .val w1175, .val (.long v14), .second, .val (.long v16), .second, rv x1181, .val (.long v19), .second, iv 1]) rfl (XS.iload S1443.here hx rfl (hb hby at_275) rfl q))))) ?_
            show G T1443 (mkF m 277 #[iv q0, iv q1, iv q2, iv q3, iv q4, iv q5, iv l6, iv r7, iv f8, rv x1168, .val w1169, .val w1171, .val w1173, .val w1175, .val (.long v14), .second, .val (.long v16), .second, rv x1181, .val (.long v19), .second, iv 1] [(.int 1)])
            have J1444 : Own.Stp Z consts_1 vm0 h0 vm1167 h1168 [] := Own.Stp.trans J1167 J1168 (all0) all0
            have J1445 : Own.Stp Z consts_1 vm0 h0 vm1169 h1169 [] := Own.Stp.trans J1444 J1169 (all0) all0
            have J1446 : Own.Stp Z consts_1 vm0 h0 vm1171 h1171 [] := Own.Stp.trans J1445 J1171 (all0) all0
            have J1447 : Own.Stp Z consts_1 vm0 h0 vm1173 h1173 [] := Own.Stp.trans J1446 J1173 (all0) all0
            have J1448 : Own.Stp Z consts_1 vm0 h0 vm1175 h1175 [] := Own.Stp.trans J1447 J1175 (all0) all0
            have J1449 : Own.Stp Z consts_1 vm0 h0 vm1177 h1177 [] := Own.Stp.trans J1448 J1177 (all0) all0
            have J1450 : Own.Stp Z consts_1 vm0 h0 vm1178 h1178 [] := Own.Stp.trans J1449 J1178 (all0) all0
            have J1451 : Own.Stp Z consts_1 vm0 h0 vm1179 h1179 [] := Own.Stp.trans J1450 J1179 (all0) all0
            have J1452 : Own.Stp Z consts_1 vm0 h0 vm1180 h1180 [] := Own.Stp.trans J1451 J1180 (all0) all0
            have J1453 : Own.Stp Z consts_1 vm0 h0 vm1180 h1181 [] := Own.Stp.trans J1452 J1181 (all0) all0
            have J1454 : Own.Stp Z consts_1 vm0 h0 vm1223 h1223 [] := Own.Stp.trans J1453 J1223 (all0) (allS (Or.inr (Nat.le_trans J1452.1.1 (Nat.le_of_eq g_x1181.symm))) all0)
            have J1455 : Own.Stp Z consts_1 vm0 h0 vm1228 h1228 [] := Own.Stp.trans J1454 J1228 (all0) (allS (Or.inr (Nat.le_trans J1452.1.1 (Nat.le_of_eq g_x1181.symm))) (allS (Or.inr (Nat.le_trans J1453.1.1 uo1223)) (allS (Or.inr (Nat.le_trans J1453.1.1 us1223)) all0)))
            have J1456 : Own.Stp Z consts_1 vm0 h0 vm1243 h1243 [] := Own.Stp.trans J1455 J1243 (all0) (allS (Or.inr (Nat.le_trans J1452.1.1 (Nat.le_of_eq g_x1181.symm))) (allS (Or.inr (Nat.le_trans J1453.1.1 uo1223)) (allS (Or.inr (Nat.le_trans J1453.1.1 ub1223)) all0)))
            have J1457 : Own.Stp Z consts_1 vm0 h0 vm1250 h1250 [] := Own.Stp.trans J1456 J1250 (all0) (allS (Or.inr (Nat.le_trans J1452.1.1 (Nat.le_of_eq g_x1181.symm))) (allS (Or.inr (Nat.le_trans J1453.1.1 uo1223)) (allS (Or.inr (Nat.le_trans J1453.1.1 us1223)) all0)))
            have J1458 : Own.Stp Z consts_1 vm0 h0 vm1396 h1396 [] := Own.Stp.trans J1457 J1396 (all0) (allS (Or.inr (Nat.le_trans J1452.1.1 (Nat.le_of_eq g_x1181.symm))) all0)
            have J1459 : Own.Stp Z consts_1 vm0 h0 vm1399 h1399 [] := Own.Stp.trans J1458 J1399 (all0) all0
            have J1460 : Own.Stp Z consts_1 vm0 h0 vm1440 h1440 [] := Own.Stp.trans J1459 J1440 (all0) (allS (Or.inr (Nat.le_trans J1452.1.1 (Nat.le_of_eq g_x1181.symm))) all0)
            have J1461 : Own.Stp Z consts_1 vm0 h0 vm1443 h1443 [] := Own.Stp.trans J1460 J1443 (all0) all0
            exact Own.Sit.retN hR S1443 hx (t := .boolean) hret (by simp) (hb hby at_277) (by decide) (by decide) ⟨J1461.1, rfl⟩
        ·
          refine hG.st (fun t q => XS.icmpYes S1250.here hx rfl (pc0 := 161) (pc' := 193) rfl (hb hby at_161) rfl (feq hc161).2 (by decide) (by decide) (XS.aload S1250.here hx rfl (hb hby at_193) rfl rfl q)) ?_
          show G T1250 (mkF m 195 #[iv q0, iv q1, iv q2, iv q3, iv q4, iv q5, iv l6, iv r7, iv f8, rv x1168, .val w1169, .val w1171, .val w1173, .val w1175, .val (.long v14), .second, .val (.long v16), .second, rv x1181, .unset, .unset, .unset] [(.ref x1181)])
          have J1462 : Own.Stp Z consts_1 vm1223 h1223 vm1243 h1243 [x1181, o1223, st1223, bt1223] := Own.Stp.trans J1228 J1243 (allS (List.mem_of_getElem? (i := 0) rfl) (allS (List.mem_of_getElem? (i := 1) rfl) (allS (List.mem_of_getElem? (i := 2) rfl) (all0)))) (allS (Or.inl (List.mem_of_getElem? (i := 0) rfl)) (allS (Or.inl (List.mem_of_getElem? (i := 1) rfl)) (allS (Or.inl (List.mem_of_getElem? (i := 3) rfl)) all0)))
          have J1463 : Own.Stp Z consts_1 vm1223 h1223 vm1250 h1250 [x1181, o1223, st1223, bt1223] := Own.Stp.trans J1462 J1250 (allS (List.mem_of_getElem? (i := 0) rfl) (allS (List.mem_of_getElem? (i := 1) rfl) (allS (List.mem_of_getElem? (i := 2) rfl) (allS (List.mem_of_getElem? (i := 3) rfl) (all0))))) (allS (Or.inl (List.mem_of_getElem? (i := 0) rfl)) (allS (Or.inl (List.mem_of_getElem? (i := 1) rfl)) (allS (Or.inl (List.mem_of_getElem? (i := 2) rfl)) all0)))
          have N1464 := own_NS.stp N1225 J1463 (allS (Nat.le_trans (Nat.le_of_eq hB) (Nat.le_refl _)) (allS (Nat.le_trans (Nat.le_of_eq hB) (Nat.le_trans (Nat.le_of_lt lt_x1181) uo1223)) (allS (Nat.le_trans (Nat.le_of_eq hB) (Nat.le_trans (Nat.le_of_lt lt_x1181) us1223)) (allS (Nat.le_trans (Nat.le_of_eq hB) (Nat.le_trans (Nat.le_of_lt lt_x1181) ub1223)) all0))))
          have N1465 := own_NS.stp N1226 J1463 (allS (Nat.le_trans (Nat.le_of_eq hB) (Nat.le_refl _)) (allS (Nat.le_trans (Nat.le_of_eq hB) (Nat.le_trans (Nat.le_of_lt lt_x1181) uo1223)) (allS (Nat.le_trans (Nat.le_of_eq hB) (Nat.le_trans (Nat.le_of_lt lt_x1181) us1223)) (allS (Nat.le_trans (Nat.le_of_eq hB) (Nat.le_trans (Nat.le_of_lt lt_x1181) ub1223)) all0))))
          have N1466 := own_NS.stp N1247 J1250 (allS (Nat.le_trans (Nat.le_of_eq hB) (Nat.le_refl _)) (allS (Nat.le_trans (Nat.le_of_eq hB) (Nat.le_trans (Nat.le_of_lt lt_x1181) uo1223)) (allS (Nat.le_trans (Nat.le_of_eq hB) (Nat.le_trans (Nat.le_of_lt lt_x1181) us1223)) all0)))
          have N1467 := own_NS.stp N1248 J1250 (allS (Nat.le_trans (Nat.le_of_eq hB) (Nat.le_refl _)) (allS (Nat.le_trans (Nat.le_of_eq hB) (Nat.le_trans (Nat.le_of_lt lt_x1181) uo1223)) (allS (Nat.le_trans (Nat.le_of_eq hB) (Nat.le_trans (Nat.le_of_lt lt_x1181) us1223)) all0)))
          have OB1468 : own_Ob Z h1250 x1181 o1223 (6 : Int32) st1223 (4 : Int32) bt1223 ((0 : Int32) + l6) (((((0 : Int64) + (own_sl q0).toInt64) + (own_sl q1).toInt64) + (own_sl q2).toInt64) + (own_sl q3).toInt64) (1 : Int32) (0 : Int32) (0 : Int32) (0 : Int32) (0 : Int64) (0 : Int64) (0 : Int64) (0 : Int64) := ⟨E_x11811251, F1251_o, F1251_oc, F1251_st, F1251_sc, F1251_bt, F1251_bc, F1251_ch, F1251_lst, F1251_ro, F1251_rs, F1251_rb, F1251_rch, F1251_ob, F1251_sb, F1251_bb⟩
          refine Own.Sit.callV hG S1250 hx hEL (as := []) (hW 132 _ rfl) (hW 133 _ rfl) (hW 135 _ rfl) (hW 134 _ rfl) (hW 56 _ rfl) (hW 136 _ rfl) (by decide) E_x11811251 (own_rel0 l Z a0 H x1181  o1223 st1223 bt1223 ((0 : Int32) + l6) (((((0 : Int64) + (own_sl q0).toInt64) + (own_sl q1).toInt64) + (own_sl q2).toInt64) + (own_sl q3).toInt64) (1 : Int32) (0 : Int32) (0 : Int32) (0 : Int64) (0 : Int64) (0 : Int64) (0 : Int64) w1169 w1171 w1173 w1175 (own_sl q0) (own_sl q1) (own_sl q2) (own_sl q3) B h1250 S1250.old OB1468 ⟨At1250, hOv⟩ N1464 N1465 N1466 N1467 (Nat.le_trans (Nat.le_of_eq hB) (Nat.le_refl _)) (Nat.le_trans (Nat.le_of_eq hB) (Nat.le_trans (Nat.le_of_lt lt_x1181) us1223)) ga_x1181 ga_st1223) own_pd62febe rfl rfl (hz _ rfl) (rest := []) rfl (W := 0) (Own.hw0 rfl rfl) (hb hby at_195) (by decide) (by decide) (by decide) (by decide) (fun v1469 vm1469 T1469 h1469 S1469 C1469 q1469 => ?_)
          obtain ⟨K1469, rfl, OB1469⟩ := q1469
          have J1469 : Own.Stp Z consts_1 vm1250 h1250 vm1469 h1469 [x1181] := ⟨K1469, C1469⟩
          have OC1469 : own_Ob Z h1469 x1181 o1223 (6 : Int32) st1223 (4 : Int32) bt1223 ((0 : Int32) + l6) (((((0 : Int64) + (own_sl q0).toInt64) + (own_sl q1).toInt64) + (own_sl q2).toInt64) + (own_sl q3).toInt64) (1 : Int32) (6 : Int32) (4 : Int32) ((0 : Int32) + l6) (((((0 : Int64) + (own_sl q0).toInt64) + (own_sl q1).toInt64) + (own_sl q2).toInt64) + (own_sl q3).toInt64) (0 : Int64) (0 : Int64) (0 : Int64) := OB1469
          obtain ⟨E_x11811470, F1470_o, F1470_oc, F1470_st, F1470_sc, F1470_bt, F1470_bc, F1470_ch, F1470_lst, F1470_ro, F1470_rs, F1470_rb, F1470_rch, F1470_ob, F1470_sb, F1470_bb⟩ := id OC1469
          show G T1469 (mkF m 198 #[iv q0, iv q1, iv q2, iv q3, iv q4, iv q5, iv l6, iv r7, iv f8, rv x1168, .val w1169, .val w1171, .val w1173, .val w1175, .val (.long v14), .second, .val (.long v16), .second, rv x1181, .unset, .unset, .unset] [])
          refine Own.Sit.ldc2 hG S1469 hx (hW 149 _ rfl) rfl (hb hby at_198) ?_
          show G T1469 (mkF m 201 #[iv q0, iv q1, iv q2, iv q3, iv q4, iv q5, iv l6, iv r7, iv f8, rv x1168, .val w1169, .val w1171, .val w1173, .val w1175, .val (.long v14), .second, .val (.long v16), .second, rv x1181, .unset, .unset, .unset] [(.long (6 : Int64))])
          refine hG.st (fun t q => XS.iload S1469.here hx rfl (hb hby at_201) rfl (XS.i2l S1469.here hx rfl (hb hby at_203) rfl (XS.ladd S1469.here hx rfl (hb hby at_204) rfl (XS.lload S1469.here hx rfl (hb hby at_205) rfl (XS.ladd S1469.here hx rfl (hb hby at_207) rfl (XS.lload S1469.here hx rfl (hb hby at_208) rfl q)))))) ?_
          show G T1469 (mkF m 210 #[iv q0, iv q1, iv q2, iv q3, iv q4, iv q5, iv l6, iv r7, iv f8, rv x1168, .val w1169, .val w1171, .val w1173, .val w1175, .val (.long v14), .second, .val (.long v16), .second, rv x1181, .unset, .unset, .unset] [(.long v16), (.long (((6 : Int64) + (l6.toInt64)) + v14))])
          refine hG.st (fun t q => XS.ladd S1469.here hx rfl (hb hby at_210) rfl (XS.lstore S1469.here hx rfl (hb hby at_211) rfl (l' := #[iv q0, iv q1, iv q2, iv q3, iv q4, iv q5, iv l6, iv r7, iv f8, rv x1168, .val w1169, .val w1171, .val w1173, .val w1175, .val (.long v14), .second, .val (.long v16), .second, rv x1181, .val (.long ((((6 : Int64) + (l6.toInt64)) + v14) + v16)), .second, .unset]) rfl q)) ?_
          show G T1469 (mkF m 213 #[iv q0, iv q1, iv q2, iv q3, iv q4, iv q5, iv l6, iv r7, iv f8, rv x1168, .val w1169, .val w1171, .val w1173, .val w1175, .val (.long v14), .second, .val (.long v16), .second, rv x1181, .val (.long ((((6 : Int64) + (l6.toInt64)) + v14) + v16)), .second, .unset] [])
          obtain ⟨v19, ev19⟩ : ∃ z : Int64, z = ((((6 : Int64) + (l6.toInt64)) + v14) + v16) := ⟨_, rfl⟩
          rw [← ev19]
          show G T1469 (mkF m 213 #[iv q0, iv q1, iv q2, iv q3, iv q4, iv q5, iv l6, iv r7, iv f8, rv x1168, .val w1169, .val w1171, .val w1173, .val w1175, .val (.long v14), .second, .val (.long v16), .second, rv x1181, .val (.long v19), .second, .unset] [])
          refine hG.st (fun t q => XS.aload S1469.here hx rfl (hb hby at_213) rfl rfl q) ?_
          show G T1469 (mkF m 215 #[iv q0, iv q1, iv q2, iv q3, iv q4, iv q5, iv l6, iv r7, iv f8, rv x1168, .val w1169, .val w1171, .val w1173, .val w1175, .val (.long v14), .second, .val (.long v16), .second, rv x1181, .val (.long v19), .second, .unset] [(.ref x1181)])
          have OB1471 : own_Ob Z h1469 x1181 o1223 (6 : Int32) st1223 (4 : Int32) bt1223 ((0 : Int32) + l6) (((((0 : Int64) + (own_sl q0).toInt64) + (own_sl q1).toInt64) + (own_sl q2).toInt64) + (own_sl q3).toInt64) (1 : Int32) (6 : Int32) (4 : Int32) ((0 : Int32) + l6) (((((0 : Int64) + (own_sl q0).toInt64) + (own_sl q1).toInt64) + (own_sl q2).toInt64) + (own_sl q3).toInt64) (0 : Int64) (0 : Int64) (0 : Int64) := ⟨E_x11811470, F1470_o, F1470_oc, F1470_st, F1470_sc, F1470_bt, F1470_bc, F1470_ch, F1470_lst, F1470_ro, F1470_rs, F1470_rb, F1470_rch, F1470_ob, F1470_sb, F1470_bb⟩
          refine Own.Sit.callV hG S1469 hx hEL (as := []) (hW 150 _ rfl) (hW 151 _ rfl) (hW 153 _ rfl) (hW 152 _ rfl) (hW 56 _ rfl) (hW 154 _ rfl) (by decide) E_x11811470 (own_rsz l Z a0 H x1181 o1223 (6 : Int32) st1223 (4 : Int32) bt1223 ((0 : Int32) + l6) (((((0 : Int64) + (own_sl q0).toInt64) + (own_sl q1).toInt64) + (own_sl q2).toInt64) + (own_sl q3).toInt64) (1 : Int32) (6 : Int32) (4 : Int32) ((0 : Int32) + l6) (((((0 : Int64) + (own_sl q0).toInt64) + (own_sl q1).toInt64) + (own_sl q2).toInt64) + (own_sl q3).toInt64) (0 : Int64) (0 : Int64) (0 : Int64) h1469 S1469.old OB1471) own_pd217456 rfl rfl (hz _ rfl) (rest := []) rfl (W := 0) (Own.hw0 rfl rfl) (hb hby at_215) (by decide) (by decide) (by decide) (by decide) (fun v1472 vm1472 T1472 h1472 S1472 C1472 q1472 => ?_)
          obtain ⟨K1472, rfl⟩ := q1472
          have J1472 : Own.Stp Z consts_1 vm1469 h1469 vm1472 h1472 [] := ⟨K1472, C1472⟩
          refine hG.st (fun t q => XS.lload S1472.here hx rfl (hb hby at_218) rfl (XS.lcmp S1472.here hx rfl (hb hby at_220) rfl q)) ?_
          show G T1472 (mkF m 221 #[iv q0, iv q1, iv q2, iv q3, iv q4, iv q5, iv l6, iv r7, iv f8, rv x1168, .val w1169, .val w1171, .val w1173, .val w1175, .val (.long v14), .second, .val (.long v16), .second, rv x1181, .val (.long v19), .second, .unset] [(.int (lcmpW (((6 : Int32) + ((0 : Int32) + l6)).toInt64 + (((((0 : Int64) + (own_sl q0).toInt64) + (own_sl q1).toInt64) + (own_sl q2).toInt64) + (own_sl q3).toInt64)) v19))])
          have hva3 : (lcmpW (((6 : Int32) + ((0 : Int32) + l6)).toInt64 + (((((0 : Int64) + (own_sl q0).toInt64) + (own_sl q1).toInt64) + (own_sl q2).toInt64) + (own_sl q3).toInt64)) v19) = 0 := own_lc (by rw [ev19, ev14, ev16]; exact own_fina3 (own_sl q0) (own_sl q1) (own_sl q2) (own_sl q3) l6 hl6)
          refine hG.st (fun t q => XS.ifNo S1472.here hx rfl (hb hby at_221) rfl ((if0 _ _).trans (teq (hva3 : (lcmpW (((6 : Int32) + ((0 : Int32) + l6)).toInt64 + (((((0 : Int64) + (own_sl q0).toInt64) + (own_sl q1).toInt64) + (own_sl q2).toInt64) + (own_sl q3).toInt64)) v19) = (0 : Int32))).2) (XS.iconst S1472.here hx rfl (hb hby at_224) (XS.goto S1472.here hx rfl (pc0 := 225) (pc' := 229) rfl (hb hby at_225) (by decide) (by decide) (XS.istore S1472.here hx rfl (hb hby at_229) rfl (l' := #[iv q0, iv q1, iv q2, iv q3, iv q4, iv q5, iv l6, iv r7, iv f8, rv x1168, .val w1169, .val w1171, .val w1173, .val w1175, .val (.long v14), .second, .val (.long v16), .second, rv x1181, .val (.long v19), .second, iv 1]) rfl (XS.iload S1472.here hx rfl (hb hby at_231) rfl q))))) ?_
          show G T1472 (mkF m 233 #[iv q0, iv q1, iv q2, iv q3, iv q4, iv q5, iv l6, iv r7, iv f8, rv x1168, .val w1169, .val w1171, .val w1173, .val w1175, .val (.long v14), .second, .val (.long v16), .second, rv x1181, .val (.long v19), .second, iv 1] [(.int f8)])
          by_cases hc233 : f8 = (0 : Int32)
          ·
            refine hG.st (fun t q => XS.ifYes S1472.here hx rfl (pc0 := 233) (pc' := 275) rfl (hb hby at_233) rfl ((if0 _ _).trans (teq hc233).1) (by decide) (by decide) (XS.iload S1472.here hx rfl (hb hby at_275) rfl q)) ?_
            show G T1472 (mkF m 277 #[iv q0, iv q1, iv q2, iv q3, iv q4, iv q5, iv l6, iv r7, iv f8, rv x1168, .val w1169, .val w1171, .val w1173, .val w1175, .val (.long v14), .second, .val (.long v16), .second, rv x1181, .val (.long v19), .second, iv 1] [(.int 1)])
            have J1473 : Own.Stp Z consts_1 vm0 h0 vm1167 h1168 [] := Own.Stp.trans J1167 J1168 (all0) all0
            have J1474 : Own.Stp Z consts_1 vm0 h0 vm1169 h1169 [] := Own.Stp.trans J1473 J1169 (all0) all0
            have J1475 : Own.Stp Z consts_1 vm0 h0 vm1171 h1171 [] := Own.Stp.trans J1474 J1171 (all0) all0
            have J1476 : Own.Stp Z consts_1 vm0 h0 vm1173 h1173 [] := Own.Stp.trans J1475 J1173 (all0) all0
            have J1477 : Own.Stp Z consts_1 vm0 h0 vm1175 h1175 [] := Own.Stp.trans J1476 J1175 (all0) all0
            have J1478 : Own.Stp Z consts_1 vm0 h0 vm1177 h1177 [] := Own.Stp.trans J1477 J1177 (all0) all0
            have J1479 : Own.Stp Z consts_1 vm0 h0 vm1178 h1178 [] := Own.Stp.trans J1478 J1178 (all0) all0
            have J1480 : Own.Stp Z consts_1 vm0 h0 vm1179 h1179 [] := Own.Stp.trans J1479 J1179 (all0) all0
            have J1481 : Own.Stp Z consts_1 vm0 h0 vm1180 h1180 [] := Own.Stp.trans J1480 J1180 (all0) all0
            have J1482 : Own.Stp Z consts_1 vm0 h0 vm1180 h1181 [] := Own.Stp.trans J1481 J1181 (all0) all0
            have J1483 : Own.Stp Z consts_1 vm0 h0 vm1223 h1223 [] := Own.Stp.trans J1482 J1223 (all0) (allS (Or.inr (Nat.le_trans J1481.1.1 (Nat.le_of_eq g_x1181.symm))) all0)
            have J1484 : Own.Stp Z consts_1 vm0 h0 vm1228 h1228 [] := Own.Stp.trans J1483 J1228 (all0) (allS (Or.inr (Nat.le_trans J1481.1.1 (Nat.le_of_eq g_x1181.symm))) (allS (Or.inr (Nat.le_trans J1482.1.1 uo1223)) (allS (Or.inr (Nat.le_trans J1482.1.1 us1223)) all0)))
            have J1485 : Own.Stp Z consts_1 vm0 h0 vm1243 h1243 [] := Own.Stp.trans J1484 J1243 (all0) (allS (Or.inr (Nat.le_trans J1481.1.1 (Nat.le_of_eq g_x1181.symm))) (allS (Or.inr (Nat.le_trans J1482.1.1 uo1223)) (allS (Or.inr (Nat.le_trans J1482.1.1 ub1223)) all0)))
            have J1486 : Own.Stp Z consts_1 vm0 h0 vm1250 h1250 [] := Own.Stp.trans J1485 J1250 (all0) (allS (Or.inr (Nat.le_trans J1481.1.1 (Nat.le_of_eq g_x1181.symm))) (allS (Or.inr (Nat.le_trans J1482.1.1 uo1223)) (allS (Or.inr (Nat.le_trans J1482.1.1 us1223)) all0)))
            have J1487 : Own.Stp Z consts_1 vm0 h0 vm1469 h1469 [] := Own.Stp.trans J1486 J1469 (all0) (allS (Or.inr (Nat.le_trans J1481.1.1 (Nat.le_of_eq g_x1181.symm))) all0)
            have J1488 : Own.Stp Z consts_1 vm0 h0 vm1472 h1472 [] := Own.Stp.trans J1487 J1472 (all0) all0
            exact Own.Sit.retN hR S1472 hx (t := .boolean) hret (by simp) (hb hby at_277) (by decide) (by decide) ⟨J1488.1, rfl⟩
          ·
            refine hG.st (fun t q => XS.ifNo S1472.here hx rfl (hb hby at_233) rfl ((if0 _ _).trans (feq hc233).1) (XS.aload S1472.here hx rfl (hb hby at_236) rfl rfl q)) ?_
            show G T1472 (mkF m 238 #[iv q0, iv q1, iv q2, iv q3, iv q4, iv q5, iv l6, iv r7, iv f8, rv x1168, .val w1169, .val w1171, .val w1173, .val w1175, .val (.long v14), .second, .val (.long v16), .second, rv x1181, .val (.long v19), .second, iv 1] [(.ref x1181)])
            have J1489 : Own.Stp Z consts_1 vm1250 h1250 vm1472 h1472 [x1181] := Own.Stp.trans J1469 J1472 (allS (List.mem_of_getElem? (i := 0) rfl) (all0)) all0
            have N1490 := own_NS.stp N1464 J1489 (allS (Nat.le_trans (Nat.le_of_eq hB) (Nat.le_refl _)) all0)
            have N1491 := own_NS.stp N1465 J1489 (allS (Nat.le_trans (Nat.le_of_eq hB) (Nat.le_refl _)) all0)
            have N1492 := own_NS.stp N1466 J1489 (allS (Nat.le_trans (Nat.le_of_eq hB) (Nat.le_refl _)) all0)
            have N1493 := own_NS.stp N1467 J1489 (allS (Nat.le_trans (Nat.le_of_eq hB) (Nat.le_refl _)) all0)
            have E1495 := J1472.exa E_x11811470
            have F1496 := J1472.fld F1470_o nin0
            have F1497 := J1472.fld F1470_oc nin0
            have F1498 := J1472.fld F1470_st nin0
            have F1499 := J1472.fld F1470_sc nin0
            have F1500 := J1472.fld F1470_bt nin0
            have F1501 := J1472.fld F1470_bc nin0
            have F1502 := J1472.fld F1470_ch nin0
            have F1503 := J1472.fld F1470_lst nin0
            have F1504 := J1472.fld F1470_ro nin0
            have F1505 := J1472.fld F1470_rs nin0
            have F1506 := J1472.fld F1470_rb nin0
            have F1507 := J1472.fld F1470_rch nin0
            have F1508 := J1472.fld F1470_ob nin0
            have F1509 := J1472.fld F1470_sb nin0
            have F1510 := J1472.fld F1470_bb nin0
            have OB1494 : own_Ob Z h1472 x1181 o1223 (6 : Int32) st1223 (4 : Int32) bt1223 ((0 : Int32) + l6) (((((0 : Int64) + (own_sl q0).toInt64) + (own_sl q1).toInt64) + (own_sl q2).toInt64) + (own_sl q3).toInt64) (1 : Int32) (6 : Int32) (4 : Int32) ((0 : Int32) + l6) (((((0 : Int64) + (own_sl q0).toInt64) + (own_sl q1).toInt64) + (own_sl q2).toInt64) + (own_sl q3).toInt64) (0 : Int64) (0 : Int64) (0 : Int64) := ⟨E1495, F1496, F1497, F1498, F1499, F1500, F1501, F1502, F1503, F1504, F1505, F1506, F1507, F1508, F1509, F1510⟩
            have J1512 : Own.Stp Z consts_1 vm1180 h1181 vm1250 h1250 [x1181] := Own.Stp.trans J1246 J1250 (allS (List.mem_of_getElem? (i := 0) rfl) (all0)) (allS (Or.inl (List.mem_of_getElem? (i := 0) rfl)) (allS (Or.inr uo1223) (allS (Or.inr us1223) all0)))
            have V1511 := J1489.arv At1250 (ninS (Ne.symm (Exa.neArv (J1512.exa E1181) At1250 (hW 55 _ rfl))) nin0)
            refine Own.Sit.callV hG S1472 hx hEL (as := []) (hW 132 _ rfl) (hW 133 _ rfl) (hW 135 _ rfl) (hW 134 _ rfl) (hW 56 _ rfl) (hW 136 _ rfl) (by decide) E1495 (own_rel4 l Z a0 H x1181  o1223 st1223 bt1223 ((0 : Int32) + l6) (((((0 : Int64) + (own_sl q0).toInt64) + (own_sl q1).toInt64) + (own_sl q2).toInt64) + (own_sl q3).toInt64) (1 : Int32) (6 : Int32) ((0 : Int32) + l6) (((((0 : Int64) + (own_sl q0).toInt64) + (own_sl q1).toInt64) + (own_sl q2).toInt64) + (own_sl q3).toInt64) (0 : Int64) (0 : Int64) (0 : Int64) w1169 w1171 w1173 w1175 (own_sl q0) (own_sl q1) (own_sl q2) (own_sl q3) B h1472 S1472.old OB1494 ⟨V1511, hOv⟩ N1490 N1491 N1492 N1493 (Nat.le_trans (Nat.le_of_eq hB) (Nat.le_refl _)) (Nat.le_trans (Nat.le_of_eq hB) (Nat.le_trans (Nat.le_of_lt lt_x1181) us1223)) ga_x1181 ga_st1223) own_pd62febe rfl rfl (hz _ rfl) (rest := []) rfl (W := 0) (Own.hw0 rfl rfl) (hb hby at_238) (by decide) (by decide) (by decide) (by decide) (fun v1513 vm1513 T1513 h1513 S1513 C1513 q1513 => ?_)
            obtain ⟨K1513, rfl, OB1513⟩ := q1513
            have J1513 : Own.Stp Z consts_1 vm1472 h1472 vm1513 h1513 [x1181] := ⟨K1513, C1513⟩
            have OC1513 : own_Ob Z h1513 x1181 o1223 (6 : Int32) st1223 (4 : Int32) bt1223 ((0 : Int32) + l6) (((((0 : Int64) + (own_sl q0).toInt64) + (own_sl q1).toInt64) + (own_sl q2).toInt64) + (own_sl q3).toInt64) (1 : Int32) (6 : Int32) (4 : Int32) ((0 : Int32) + l6) (((((0 : Int64) + (own_sl q0).toInt64) + (own_sl q1).toInt64) + (own_sl q2).toInt64) + (own_sl q3).toInt64) (0 : Int64) (0 : Int64) (0 : Int64) := OB1513
            obtain ⟨E_x11811514, F1514_o, F1514_oc, F1514_st, F1514_sc, F1514_bt, F1514_bc, F1514_ch, F1514_lst, F1514_ro, F1514_rs, F1514_rb, F1514_rch, F1514_ob, F1514_sb, F1514_bb⟩ := id OC1513
            refine hG.st (fun t q => XS.iload S1513.here hx rfl (hb hby at_241) rfl (XS.ifNo S1513.here hx rfl (hb hby at_243) rfl ((if0 _ _).trans (feq (by decide : ¬ ((1 : Int32) = (0 : Int32)))).1) (XS.aload S1513.here hx rfl (hb hby at_246) rfl rfl q))) ?_
            show G T1513 (mkF m 248 #[iv q0, iv q1, iv q2, iv q3, iv q4, iv q5, iv l6, iv r7, iv f8, rv x1168, .val w1169, .val w1171, .val w1173, .val w1175, .val (.long v14), .second, .val (.long v16), .second, rv x1181, .val (.long v19), .second, iv 1] [(.ref x1181)])
            have OB1515 : own_Ob Z h1513 x1181 o1223 (6 : Int32) st1223 (4 : Int32) bt1223 ((0 : Int32) + l6) (((((0 : Int64) + (own_sl q0).toInt64) + (own_sl q1).toInt64) + (own_sl q2).toInt64) + (own_sl q3).toInt64) (1 : Int32) (6 : Int32) (4 : Int32) ((0 : Int32) + l6) (((((0 : Int64) + (own_sl q0).toInt64) + (own_sl q1).toInt64) + (own_sl q2).toInt64) + (own_sl q3).toInt64) (0 : Int64) (0 : Int64) (0 : Int64) := ⟨E_x11811514, F1514_o, F1514_oc, F1514_st, F1514_sc, F1514_bt, F1514_bc, F1514_ch, F1514_lst, F1514_ro, F1514_rs, F1514_rb, F1514_rch, F1514_ob, F1514_sb, F1514_bb⟩
            refine Own.Sit.callV hG S1513 hx hEL (as := []) (hW 150 _ rfl) (hW 151 _ rfl) (hW 153 _ rfl) (hW 152 _ rfl) (hW 56 _ rfl) (hW 154 _ rfl) (by decide) E_x11811514 (own_rsz l Z a0 H x1181 o1223 (6 : Int32) st1223 (4 : Int32) bt1223 ((0 : Int32) + l6) (((((0 : Int64) + (own_sl q0).toInt64) + (own_sl q1).toInt64) + (own_sl q2).toInt64) + (own_sl q3).toInt64) (1 : Int32) (6 : Int32) (4 : Int32) ((0 : Int32) + l6) (((((0 : Int64) + (own_sl q0).toInt64) + (own_sl q1).toInt64) + (own_sl q2).toInt64) + (own_sl q3).toInt64) (0 : Int64) (0 : Int64) (0 : Int64) h1513 S1513.old OB1515) own_pd217456 rfl rfl (hz _ rfl) (rest := []) rfl (W := 0) (Own.hw0 rfl rfl) (hb hby at_248) (by decide) (by decide) (by decide) (by decide) (fun v1516 vm1516 T1516 h1516 S1516 C1516 q1516 => ?_)
            obtain ⟨K1516, rfl⟩ := q1516
            have J1516 : Own.Stp Z consts_1 vm1513 h1513 vm1516 h1516 [] := ⟨K1516, C1516⟩
            show G T1516 (mkF m 251 #[iv q0, iv q1, iv q2, iv q3, iv q4, iv q5, iv l6, iv r7, iv f8, rv x1168, .val w1169, .val w1171, .val w1173, .val w1175, .val (.long v14), .second, .val (.long v16), .second, rv x1181, .val (.long v19), .second, iv 1] [(.long (((6 : Int32) + ((0 : Int32) + l6)).toInt64 + (((((0 : Int64) + (own_sl q0).toInt64) + (own_sl q1).toInt64) + (own_sl q2).toInt64) + (own_sl q3).toInt64)))])
            refine Own.Sit.ldc2 hG S1516 hx (hW 149 _ rfl) rfl (hb hby at_251) ?_
            show G T1516 (mkF m 254 #[iv q0, iv q1, iv q2, iv q3, iv q4, iv q5, iv l6, iv r7, iv f8, rv x1168, .val w1169, .val w1171, .val w1173, .val w1175, .val (.long v14), .second, .val (.long v16), .second, rv x1181, .val (.long v19), .second, iv 1] [(.long (6 : Int64)), (.long (((6 : Int32) + ((0 : Int32) + l6)).toInt64 + (((((0 : Int64) + (own_sl q0).toInt64) + (own_sl q1).toInt64) + (own_sl q2).toInt64) + (own_sl q3).toInt64)))])
            refine hG.st (fun t q => XS.iload S1516.here hx rfl (hb hby at_254) rfl (XS.i2l S1516.here hx rfl (hb hby at_256) rfl (XS.ladd S1516.here hx rfl (hb hby at_257) rfl (XS.lload S1516.here hx rfl (hb hby at_258) rfl (XS.ladd S1516.here hx rfl (hb hby at_260) rfl (XS.lload S1516.here hx rfl (hb hby at_261) rfl q)))))) ?_
            show G T1516 (mkF m 263 #[iv q0, iv q1, iv q2, iv q3, iv q4, iv q5, iv l6, iv r7, iv f8, rv x1168, .val w1169, .val w1171, .val w1173, .val w1175, .val (.long v14), .second, .val (.long v16), .second, rv x1181, .val (.long v19), .second, iv 1] [(.long v16), (.long (((6 : Int64) + (l6.toInt64)) + v14)), (.long (((6 : Int32) + ((0 : Int32) + l6)).toInt64 + (((((0 : Int64) + (own_sl q0).toInt64) + (own_sl q1).toInt64) + (own_sl q2).toInt64) + (own_sl q3).toInt64)))])
            refine hG.st (fun t q => XS.ladd S1516.here hx rfl (hb hby at_263) rfl (XS.lcmp S1516.here hx rfl (hb hby at_264) rfl q)) ?_
            show G T1516 (mkF m 265 #[iv q0, iv q1, iv q2, iv q3, iv q4, iv q5, iv l6, iv r7, iv f8, rv x1168, .val w1169, .val w1171, .val w1173, .val w1175, .val (.long v14), .second, .val (.long v16), .second, rv x1181, .val (.long v19), .second, iv 1] [(.int (lcmpW (((6 : Int32) + ((0 : Int32) + l6)).toInt64 + (((((0 : Int64) + (own_sl q0).toInt64) + (own_sl q1).toInt64) + (own_sl q2).toInt64) + (own_sl q3).toInt64)) ((((6 : Int64) + (l6.toInt64)) + v14) + v16)))])
            have hvb3 : (lcmpW (((6 : Int32) + ((0 : Int32) + l6)).toInt64 + (((((0 : Int64) + (own_sl q0).toInt64) + (own_sl q1).toInt64) + (own_sl q2).toInt64) + (own_sl q3).toInt64)) ((((6 : Int64) + (l6.toInt64)) + v14) + v16)) = 0 := own_lc (by rw [ev14, ev16]; exact own_finb3 (own_sl q0) (own_sl q1) (own_sl q2) (own_sl q3) l6 hl6)
            refine hG.st (fun t q => XS.ifNo S1516.here hx rfl (hb hby at_265) rfl ((if0 _ _).trans (teq (hvb3 : (lcmpW (((6 : Int32) + ((0 : Int32) + l6)).toInt64 + (((((0 : Int64) + (own_sl q0).toInt64) + (own_sl q1).toInt64) + (own_sl q2).toInt64) + (own_sl q3).toInt64)) ((((6 : Int64) + (l6.toInt64)) + v14) + v16)) = (0 : Int32))).2) (XS.iconst S1516.here hx rfl (hb hby at_268) (XS.goto S1516.here hx rfl (pc0 := 269) (pc' := 273) rfl (hb hby at_269) (by decide) (by decide) (XS.istore S1516.here hx rfl (hb hby at_273) rfl (l' := #[iv q0, iv q1, iv q2, iv q3, iv q4, iv q5, iv l6, iv r7, iv f8, rv x1168, .val w1169, .val w1171, .val w1173, .val w1175, .val (.long v14), .second, .val (.long v16), .second, rv x1181, .val (.long v19), .second, iv 1]) rfl (XS.iload S1516.here hx rfl (hb hby at_275) rfl q))))) ?_
            show G T1516 (mkF m 277 #[iv q0, iv q1, iv q2, iv q3, iv q4, iv q5, iv l6, iv r7, iv f8, rv x1168, .val w1169, .val w1171, .val w1173, .val w1175, .val (.long v14), .second, .val (.long v16), .second, rv x1181, .val (.long v19), .second, iv 1] [(.int 1)])
            have J1517 : Own.Stp Z consts_1 vm0 h0 vm1167 h1168 [] := Own.Stp.trans J1167 J1168 (all0) all0
            have J1518 : Own.Stp Z consts_1 vm0 h0 vm1169 h1169 [] := Own.Stp.trans J1517 J1169 (all0) all0
            have J1519 : Own.Stp Z consts_1 vm0 h0 vm1171 h1171 [] := Own.Stp.trans J1518 J1171 (all0) all0
            have J1520 : Own.Stp Z consts_1 vm0 h0 vm1173 h1173 [] := Own.Stp.trans J1519 J1173 (all0) all0
            have J1521 : Own.Stp Z consts_1 vm0 h0 vm1175 h1175 [] := Own.Stp.trans J1520 J1175 (all0) all0
            have J1522 : Own.Stp Z consts_1 vm0 h0 vm1177 h1177 [] := Own.Stp.trans J1521 J1177 (all0) all0
            have J1523 : Own.Stp Z consts_1 vm0 h0 vm1178 h1178 [] := Own.Stp.trans J1522 J1178 (all0) all0
            have J1524 : Own.Stp Z consts_1 vm0 h0 vm1179 h1179 [] := Own.Stp.trans J1523 J1179 (all0) all0
            have J1525 : Own.Stp Z consts_1 vm0 h0 vm1180 h1180 [] := Own.Stp.trans J1524 J1180 (all0) all0
            have J1526 : Own.Stp Z consts_1 vm0 h0 vm1180 h1181 [] := Own.Stp.trans J1525 J1181 (all0) all0
            have J1527 : Own.Stp Z consts_1 vm0 h0 vm1223 h1223 [] := Own.Stp.trans J1526 J1223 (all0) (allS (Or.inr (Nat.le_trans J1525.1.1 (Nat.le_of_eq g_x1181.symm))) all0)
            have J1528 : Own.Stp Z consts_1 vm0 h0 vm1228 h1228 [] := Own.Stp.trans J1527 J1228 (all0) (allS (Or.inr (Nat.le_trans J1525.1.1 (Nat.le_of_eq g_x1181.symm))) (allS (Or.inr (Nat.le_trans J1526.1.1 uo1223)) (allS (Or.inr (Nat.le_trans J1526.1.1 us1223)) all0)))
            have J1529 : Own.Stp Z consts_1 vm0 h0 vm1243 h1243 [] := Own.Stp.trans J1528 J1243 (all0) (allS (Or.inr (Nat.le_trans J1525.1.1 (Nat.le_of_eq g_x1181.symm))) (allS (Or.inr (Nat.le_trans J1526.1.1 uo1223)) (allS (Or.inr (Nat.le_trans J1526.1.1 ub1223)) all0)))
            have J1530 : Own.Stp Z consts_1 vm0 h0 vm1250 h1250 [] := Own.Stp.trans J1529 J1250 (all0) (allS (Or.inr (Nat.le_trans J1525.1.1 (Nat.le_of_eq g_x1181.symm))) (allS (Or.inr (Nat.le_trans J1526.1.1 uo1223)) (allS (Or.inr (Nat.le_trans J1526.1.1 us1223)) all0)))
            have J1531 : Own.Stp Z consts_1 vm0 h0 vm1469 h1469 [] := Own.Stp.trans J1530 J1469 (all0) (allS (Or.inr (Nat.le_trans J1525.1.1 (Nat.le_of_eq g_x1181.symm))) all0)
            have J1532 : Own.Stp Z consts_1 vm0 h0 vm1472 h1472 [] := Own.Stp.trans J1531 J1472 (all0) all0
            have J1533 : Own.Stp Z consts_1 vm0 h0 vm1513 h1513 [] := Own.Stp.trans J1532 J1513 (all0) (allS (Or.inr (Nat.le_trans J1525.1.1 (Nat.le_of_eq g_x1181.symm))) all0)
            have J1534 : Own.Stp Z consts_1 vm0 h0 vm1516 h1516 [] := Own.Stp.trans J1533 J1516 (all0) all0
            exact Own.Sit.retN hR S1516 hx (t := .boolean) hret (by simp) (hb hby at_277) (by decide) (by decide) ⟨J1534.1, rfl⟩
  refine hG.st (fun t q => XS.iload S0.here hx rfl (hb hby at_13) rfl (XS.iconst S0.here hx rfl (hb hby at_15) (XS.iushr S0.here hx rfl (hb hby at_16) rfl (XS.iconst S0.here hx rfl (hb hby at_17) (XS.iand S0.here hx rfl (hb hby at_18) rfl q))))) ?_
  show G T0 (mkF m 19 #[iv q0, iv q1, iv q2, iv q3, iv q4, iv q5, iv l6, iv r7, .unset, .unset, .unset, .unset, .unset, .unset, .unset, .unset, .unset, .unset, .unset, .unset, .unset, .unset] [(.int (((q5.toUInt32 >>> ((2 : Int32) &&& 31).toUInt32).toInt32) &&& (1 : Int32)))])
  by_cases hc19 : (((q5.toUInt32 >>> ((2 : Int32) &&& 31).toUInt32).toInt32) &&& (1 : Int32)) = (0 : Int32)
  ·
    refine hG.st (fun t q => XS.ifYes S0.here hx rfl (pc0 := 19) (pc' := 26) rfl (hb hby at_19) rfl ((if0 _ _).trans (teq hc19).1) (by decide) (by decide) (XS.iconst S0.here hx rfl (hb hby at_26) q)) ?_
    show G T0 (mkF m 27 #[iv q0, iv q1, iv q2, iv q3, iv q4, iv q5, iv l6, iv r7, .unset, .unset, .unset, .unset, .unset, .unset, .unset, .unset, .unset, .unset, .unset, .unset, .unset, .unset] [(.int 0)])
    exact JN vm0 T0 h0 (0 : Int32) (S0.mono (by decide) (by decide)) (Own.Stp.mono (Own.Stp.refl S0.ch) all0) 
  ·
    refine hG.st (fun t q => XS.ifNo S0.here hx rfl (hb hby at_19) rfl ((if0 _ _).trans (feq hc19).1) (XS.iconst S0.here hx rfl (hb hby at_22) (XS.goto S0.here hx rfl (pc0 := 23) (pc' := 27) rfl (hb hby at_23) (by decide) (by decide) q))) ?_
    show G T0 (mkF m 27 #[iv q0, iv q1, iv q2, iv q3, iv q4, iv q5, iv l6, iv r7, .unset, .unset, .unset, .unset, .unset, .unset, .unset, .unset, .unset, .unset, .unset, .unset, .unset, .unset] [(.int 1)])
    exact JN vm0 T0 h0 (1 : Int32) (S0.mono (by decide) (by decide)) (Own.Stp.mono (Own.Stp.refl S0.ch) all0) 
set_option maxRecDepth 65536 in
set_option maxHeartbeats 40000000 in
theorem own_comes {Post : Tables → Env → Array Value → State → Outcome → State → Prop} (hpost : ∀ tb e args s v u, (limb_1_1.after args s (.returned v) u = true ∧ limb_1_2.after args s (.returned v) u = true ∧ True) → ReturnedEndW s (.returned v) u (Jvm.fieldLocs frame_1_writes args s ++ Jvm.arrayLocs frame_1_arrays args s ++ Jvm.staticLocs frame_1_statics s) 48 50368 → Post tb e args s (.returned v) u) :
    ArmFor flags0 classFile x code maxLocals ret World_1 tables_1 room_1 Calls_1 rest_1 Pre_1 Post := by
  intro l hfl _ _ p e ha hc hk s m args below hf hA hF happ hP
  obtain ⟨hcalls, hrest, hpre⟩ := hP
  obtain ⟨-, -, -, hnamed, -, -, -, hat⟩ := (Spec.applies_iff hf).mp happ
  obtain ⟨hg, hn⟩ := and_e (Cond.before_iff.mp (show (Jvm.Cond.and given_1 narrow_1).before args s = true from hpre))
  obtain ⟨hcount, hg0⟩ := and_e hg
  obtain ⟨ha0, hg1⟩ := and_e hg0
  obtain ⟨ha1, hg2⟩ := and_e hg1
  obtain ⟨ha2, hg3⟩ := and_e hg2
  obtain ⟨ha3, hg4⟩ := and_e hg3
  obtain ⟨ha4, hg5⟩ := and_e hg4
  have ha5 := hg5
  obtain ⟨w0, w1, w2, w3, w4, w5, rfl⟩ : ∃ w0 w1 w2 w3 w4 w5 : Value, args = #[w0, w1, w2, w3, w4, w5] := by
    have hs : args.size = 6 := by simpa [Cond.value, given_1] using hcount
    obtain ⟨L⟩ := args
    match L, hs with
    | [w0, w1, w2, w3, w4, w5], _ => exact ⟨w0, w1, w2, w3, w4, w5, rfl⟩
  have hw := fun d (hd : d ∈ tables_1) => atoms_spec (ws := Jvm.Cond.code x code maxLocals ret :: tables_1) hat d (List.mem_cons_of_mem _ hd)
  have hW := fun (i : Nat) (w : Jvm.Cond) (e : tables_1[i]? = some w) => hw w (List.mem_of_getElem? e)
  obtain ⟨hsets, hown0⟩ := atoms_of _ (rest_1_c_eq ▸ (show rest_1_c.before _ s = true from hrest))
  have hfit : Fit s := fun {y c} hc i hi => by
    obtain ⟨ha, rfl⟩ := Array.getElem?_eq_some_iff.mp hc
    have q := List.all_eq_true.mp ((Array.all_eq_true_iff_forall_mem.mp hF) _ (Array.getElem_mem ha)) i (List.mem_range.mpr hi)
    simpa [Array.getElem?_eq_getElem hi] using q
  obtain ⟨i0, ea0⟩ := is_v ha0
  obtain rfl : w0 = (.int i0) := Option.some.inj ea0
  obtain ⟨i1, ea1⟩ := is_v ha1
  obtain rfl : w1 = (.int i1) := Option.some.inj ea1
  obtain ⟨i2, ea2⟩ := is_v ha2
  obtain rfl : w2 = (.int i2) := Option.some.inj ea2
  obtain ⟨i3, ea3⟩ := is_v ha3
  obtain rfl : w3 = (.int i3) := Option.some.inj ea3
  obtain ⟨i4, ea4⟩ := is_v ha4
  obtain rfl : w4 = (.int i4) := Option.some.inj ea4
  obtain ⟨i5, ea5⟩ := is_v ha5
  obtain rfl : w5 = (.int i5) := Option.some.inj ea5
  have ncs := not_v (Cond.before_iff.mp (hsets _ (List.mem_of_getElem? (i := 2) rfl)))
  obtain ⟨zcs, ecs⟩ := is_v (Cond.before_iff.mp (hsets _ (List.mem_of_getElem? (i := 1) rfl)))
  have hCm : Own.Cmp s := ⟨zcs, Sta.start ecs (Or.inl (hsets _ (List.mem_of_getElem? (i := 0) rfl))), gotF (Cond.eq_ints ecs (Term.int_eval (0))) ncs⟩
  obtain ⟨vsi, esi, rsi⟩ := isR_v (Cond.before_iff.mp (hsets _ (List.mem_of_getElem? (i := 8) rfl)))
  have hSi : Own.Sio s := ⟨vsi, Sta.start esi (Or.inl (hsets _ (List.mem_of_getElem? (i := 7) rfl))), rsi⟩
  have hEL : EW s _ consts_1 := (EW.cons (hW 5 _ rfl) (by decide) EW.nil)
  have hCH : CHv s consts_1 s.vm s.heap := CHv.start hEL (fun p hp => hcalls.1 p hp) (hsets _ (List.mem_of_getElem? (i := 2) rfl)) (hW 0 _ rfl) (hW 7 _ rfl)
  have HW : own_Wld s _ := ⟨hw, hCm, hSi, hEL⟩
  obtain ⟨n, o, h1, h2, h3, _, L, rfl, ⟨⟨-, rfl⟩, N⟩, -, hq⟩ := own_law l s _ HW (cw := tables_1) i0 i1 i2 i3 i4 i5 s.heap ⟨Nat.le_refl _, fun _ _ q => q⟩ p e ha hc hk s m _ below hf ((Spec.applies_iff_loose hf).mp happ).1 ⟨rfl, State.Warmed39.refl s, rfl, hCH⟩ trivial
  exact ⟨n, _, h1, h2, h3, hpost _ _ _ _ _ _ ⟨Cond.after_iff.mpr rfl, Cond.after_iff.mpr (eq_i res_at (Term.int_eval (1)) rfl), trivial⟩ ⟨hq.1, hq.2.1, hq.2.2.1, hq.2.2.2.sift fun y hy => Or.inr (N y hy)⟩⟩
theorem main_1_1 : Claimed_1_1 := own_comes fun _ _ _ _ _ _ h hF => ⟨h.1, hF⟩
theorem main_1_2 : Claimed_1_2 := own_comes fun _ _ _ _ _ _ h hF => ⟨h.2.1, hF⟩
end Jvm.Pilot.@@N@@
namespace Jvm.Pilot.@@N@@
open Jvm Jvm.ClassFile Sem Op Lib Jvm.Free Jvm.Stand Jvm.Pilot.@@N@@.Jvm.D
/-! MADE BY PROGRAM (witnessworld.py) out of the Statement's table words and the real class files: 22 classes; the members and pool entries that the words name. The judged class is class 1, her method 3. -/
namespace start1
open Jvm.ClassFile
def u (s : String) : CpInfo := .utf8 (stringToUtf16 s)
/-- a pool by its gaps: so many unusable entries, then the entry; so many at the end -/
def gap : Nat → List CpInfo → List CpInfo
  | 0, r => r
  | n + 1, r => .unusable :: gap n r
def poolList (es : List (Nat × CpInfo)) (last : Nat) : List CpInfo := es.foldr (fun e r => gap e.1 (e.2 :: r)) (gap last [])
def pool (es : List (Nat × CpInfo)) (last : Nat) : Array CpInfo := ⟨poolList es last⟩
def fileOf (pool : Array CpInfo) (this : Nat) (attrs : Array Attribute := #[]) (ms : Array MethodInfo := #[]) (fl : Nat := 33) (sup : Nat := 0) (ifs : Array Nat := #[]) (fds : Array FieldInfo := #[]) : ClassFile where
  minorVersion := 0
  majorVersion := 65
  constantPool := pool
  accessFlags := fl
  thisClass := this
  superClass := sup
  interfaces := ifs
  fields := fds
  methods := ms
  attributes := attrs
def plain (name : String) (sup : Option ClassId) : Class where
  name := name
  kind := .ordinary
  loader := none
  accessFlags := 33
  super := sup
  interfaces := #[]
  cf := none
  fields := #[]
  methods := #[]
  instanceTypes := #[]
  staticTypes := #[]
  resolved := #[]
  callSites := []
  init := .initialized
  statics := none
  mirror := none

def pool0 : Array CpInfo := pool [(5, u "<init>"), (0, u "()V"), (1, .class_ 10), (1, u "java/lang/Object")] 113

def k0c0 : Code := { maxStack := 0, maxLocals := 1, code := object_method_1_code, exceptionTable := #[], attributes := #[] }
def k0m0 : Method := { name := "<init>", desc := "()V", sig := { parameters := [], returnType := none }, accessFlags := 1, code := some k0c0 }
/-- java/lang/Object -/
def k0 : Class := { plain "java/lang/Object" none with
  accessFlags := 33
  interfaces := #[]
  cf := some (fileOf pool0 8 #[] #[{ accessFlags := 1, nameIndex := 5, descriptorIndex := 6, attributes := #[] }] 33 0 #[] #[])
  fields := #[]
  methods := #[k0m0]
  instanceTypes := #[]
  staticTypes := #[]
  resolved := Array.replicate 124 none
  statics := none }

def pool1 : Array CpInfo := pool [(2, .class_ 4), (0, .nameAndType 5 6), (0, u "java/lang/Object"), (0, u "<init>"), (0, u "()V"), (0, .string 8), (0, u ""), (0, .methodref 10 11), (0, .class_ 12), (0, .nameAndType 13 14), (0, u "java/lang/String"), (0, u "valueOf"), (0, u "(C)Ljava/lang/String;"), (0, .methodref 10 16), (0, .nameAndType 5 17), (0, u "([C)V"), (0, .methodref 19 20), (0, .class_ 21), (0, .nameAndType 22 23), (0, u "com/example/scholiast/scholiast/XmlEventsReleasedSizePinLaw"), (0, u "str"), (0, u "(I)Ljava/lang/String;"), (0, .methodref 19 25), (0, .nameAndType 26 27), (0, u "len"), (0, u "(I)J"), (0, .class_ 29), (0, u "com/example/scholiast/scholiast/XmlEvents"), (0, .methodref 28 3), (0, .methodref 28 32), (0, .nameAndType 33 34), (0, u "start"), (0, u "(Ljava/lang/String;Ljava/lang/String;)V"), (0, .methodref 28 36), (0, .nameAndType 37 38), (0, u "text"), (0, u "([BII)V"), (0, .methodref 28 40), (0, .nameAndType 41 34), (0, u "end"), (0, .long 3), (1, .long 2), (1, .methodref 28 47), (0, .nameAndType 48 49), (0, u "releaseBefore"), (0, u "(JJJ)V"), (0, .long 5), (1, .methodref 28 53), (0, .nameAndType 54 6), (0, u "release"), (0, .long 6), (1, .methodref 28 58), (0, .nameAndType 59 60), (0, u "releasedSize"), (0, u "()J"), (3, u "law"), (0, u "(IIIIII)Z")] 4

def k1m0 : Method := { name := "<init>", desc := "()V", sig := { parameters := [], returnType := none }, accessFlags := 1, code := none }
def k1c1 : Code := { maxStack := 6, maxLocals := 3, code := method_2_code, exceptionTable := #[], attributes := #[] }
def k1m1 : Method := { name := "str", desc := "(I)Ljava/lang/String;", sig := { parameters := [.int], returnType := some (.object "java/lang/String") }, accessFlags := 10, code := some k1c1 }
def k1c2 : Code := { maxStack := 2, maxLocals := 1, code := method_3_code, exceptionTable := #[], attributes := #[] }
def k1m2 : Method := { name := "len", desc := "(I)J", sig := { parameters := [.int], returnType := some .long }, accessFlags := 10, code := some k1c2 }
def k1c3 : Code := { maxStack := 7, maxLocals := 22, code := code, exceptionTable := #[], attributes := #[] }
def k1m3 : Method := { name := "law", desc := "(IIIIII)Z", sig := { parameters := [.int, .int, .int, .int, .int, .int], returnType := some .boolean }, accessFlags := 9, code := some k1c3 }
/-- com/example/scholiast/scholiast/XmlEventsReleasedSizePinLaw -/
def k1 : Class := { plain "com/example/scholiast/scholiast/XmlEventsReleasedSizePinLaw" (some 0) with
  accessFlags := 49
  interfaces := #[]
  cf := some (fileOf pool1 19 #[] #[{ accessFlags := 1, nameIndex := 5, descriptorIndex := 6, attributes := #[] }, { accessFlags := 10, nameIndex := 22, descriptorIndex := 23, attributes := #[] }, { accessFlags := 10, nameIndex := 26, descriptorIndex := 27, attributes := #[] }, { accessFlags := 9, nameIndex := 64, descriptorIndex := 65, attributes := #[] }] 49 2 #[] #[])
  fields := #[]
  methods := #[k1m0, k1m1, k1m2, k1m3]
  instanceTypes := #[]
  staticTypes := #[]
  resolved := Array.replicate 70 none
  statics := none }

def pool2 : Array CpInfo := pool [(1, .class_ 2), (0, u "java/io/Serializable"), (0, .class_ 4), (0, u "java/lang/Object")] 2

/-- java/io/Serializable -/
def k2 : Class := { plain "java/io/Serializable" (some 0) with
  accessFlags := 1537
  interfaces := #[]
  cf := some (fileOf pool2 1 #[] #[] 1537 3 #[] #[])
  fields := #[]
  methods := #[]
  instanceTypes := #[]
  staticTypes := #[]
  resolved := Array.replicate 7 none
  statics := none }

def pool3 : Array CpInfo := pool [(1, .class_ 2), (0, u "java/lang/Comparable"), (0, .class_ 4), (0, u "java/lang/Object")] 7

/-- java/lang/Comparable -/
def k3 : Class := { plain "java/lang/Comparable" (some 0) with
  accessFlags := 1537
  interfaces := #[]
  cf := some (fileOf pool3 1 #[] #[] 1537 3 #[] #[])
  fields := #[]
  methods := #[]
  instanceTypes := #[]
  staticTypes := #[]
  resolved := Array.replicate 12 none
  statics := none }

def pool4 : Array CpInfo := pool [(2, .class_ 4), (1, u "java/lang/CharSequence"), (42, .class_ 48), (0, u "java/lang/CharSequence$1CodePointIterator"), (10, .class_ 60), (0, u "java/lang/CharSequence$1CharIterator"), (5, .class_ 67), (0, u "java/lang/Object")] 63

/-- java/lang/CharSequence -/
def k4 : Class := { plain "java/lang/CharSequence" (some 0) with
  accessFlags := 1537
  interfaces := #[]
  cf := some (fileOf pool4 2 #[.nestMembers #[47, 59]] #[] 1537 66 #[] #[])
  fields := #[]
  methods := #[]
  instanceTypes := #[]
  staticTypes := #[]
  resolved := Array.replicate 131 none
  statics := none }

def pool5 : Array CpInfo := pool [(1, .class_ 2), (0, u "java/lang/constant/Constable"), (0, .class_ 4), (0, u "java/lang/Object")] 6

/-- java/lang/constant/Constable -/
def k5 : Class := { plain "java/lang/constant/Constable" (some 0) with
  accessFlags := 1537
  interfaces := #[]
  cf := some (fileOf pool5 1 #[] #[] 1537 3 #[] #[])
  fields := #[]
  methods := #[]
  instanceTypes := #[]
  staticTypes := #[]
  resolved := Array.replicate 11 none
  statics := none }

def pool6 : Array CpInfo := pool [(1, .class_ 2), (0, u "java/lang/constant/ConstantDesc"), (0, .class_ 4), (0, u "java/lang/Object")] 32

/-- java/lang/constant/ConstantDesc -/
def k6 : Class := { plain "java/lang/constant/ConstantDesc" (some 0) with
  accessFlags := 1537
  interfaces := #[]
  cf := some (fileOf pool6 1 #[] #[] 1537 3 #[] #[])
  fields := #[]
  methods := #[]
  instanceTypes := #[]
  staticTypes := #[]
  resolved := Array.replicate 37 none
  statics := none }

def pool7 : Array CpInfo := pool [(1, .methodref 2 3), (0, .class_ 4), (0, .nameAndType 5 6), (0, u "java/lang/Object"), (0, u "<init>"), (0, u "()V"), (2, .fieldref 10 11), (0, .class_ 12), (0, .nameAndType 13 14), (0, u "java/lang/String"), (0, u "value"), (0, u "[B"), (0, .fieldref 10 16), (0, .nameAndType 17 18), (0, u "coder"), (0, u "B"), (2, u "hash"), (0, u "I"), (2, u "hashIsZero"), (0, u "Z"), (0, .methodref 10 28), (0, .nameAndType 5 29), (0, u "([CIILjava/lang/Void;)V"), (8, .fieldref 10 39), (0, .nameAndType 40 26), (0, u "COMPACT_STRINGS"), (1, .class_ 44), (1, u "java/lang/StringUTF16"), (0, u "compress"), (1, .methodref 42 48), (0, .nameAndType 49 50), (0, u "coderFromArrayLen"), (0, u "([BI)B"), (2, u "toBytes"), (53, .class_ 109), (1, u "java/lang/StringLatin1"), (67, .methodref 42 178), (0, .nameAndType 45 179), (0, u "([CII)[B"), (29, .methodref 10 210), (0, .nameAndType 5 211), (0, u "([BB)V"), (122, u "()I"), (0, .methodref 10 336), (0, .nameAndType 17 337), (0, u "()B"), (31, u "(C)Z"), (137, u "length"), (67, .class_ 576), (0, u "java/lang/CharSequence"), (22, u "CASE_INSENSITIVE_ORDER"), (0, u "Ljava/util/Comparator;"), (181, u "valueOf"), (0, u "(C)Ljava/lang/String;"), (226, u "([C)V"), (4, .methodref 107 1016), (0, .nameAndType 1017 369), (0, u "canEncode"), (0, .methodref 107 1019), (0, .nameAndType 53 1020), (0, u "(C)[B"), (80, u "serialPersistentFields"), (0, u "[Ljava/io/ObjectStreamField;"), (0, .class_ 1104), (0, u "java/lang/String$CaseInsensitiveComparator"), (1, .class_ 1107), (0, u "java/io/Serializable"), (0, .class_ 1109), (0, u "java/lang/Comparable"), (0, .class_ 1111), (0, u "java/lang/constant/Constable"), (0, .class_ 1113), (0, u "java/lang/constant/ConstantDesc"), (2, u "serialVersionUID"), (0, u "J"), (3, u "REPL"), (0, u "C"), (2, u "LATIN1"), (1, u "UTF16")] 323

def k7m0 : Method := { name := "<init>", desc := "()V", sig := { parameters := [], returnType := none }, accessFlags := 1, code := none }
def k7c1 : Code := { maxStack := 5, maxLocals := 2, code := jdk_42_method_3_code, exceptionTable := #[], attributes := #[] }
def k7m1 : Method := { name := "<init>", desc := "([C)V", sig := { parameters := [(.array .char)], returnType := none }, accessFlags := 1, code := some k7c1 }
def k7c2 : Code := { maxStack := 2, maxLocals := 1, code := jdk_42_method_54_code, exceptionTable := #[], attributes := #[] }
def k7m2 : Method := { name := "length", desc := "()I", sig := { parameters := [], returnType := some .int }, accessFlags := 1, code := some k7c2 }
def k7c3 : Code := { maxStack := 4, maxLocals := 1, code := jdk_42_method_139_code, exceptionTable := #[], attributes := #[] }
def k7m3 : Method := { name := "valueOf", desc := "(C)Ljava/lang/String;", sig := { parameters := [.char], returnType := some (.object "java/lang/String") }, accessFlags := 9, code := some k7c3 }
def k7c4 : Code := { maxStack := 4, maxLocals := 6, code := jdk_42_method_149_code, exceptionTable := #[], attributes := #[] }
def k7m4 : Method := { name := "<init>", desc := "([CIILjava/lang/Void;)V", sig := { parameters := [(.array .char), .int, .int, (.object "java/lang/Void")], returnType := none }, accessFlags := 2, code := some k7c4 }
def k7c5 : Code := { maxStack := 2, maxLocals := 3, code := jdk_42_method_151_code, exceptionTable := #[], attributes := #[] }
def k7m5 : Method := { name := "<init>", desc := "([BB)V", sig := { parameters := [(.array .byte), .byte], returnType := none }, accessFlags := 0, code := some k7c5 }
def k7c6 : Code := { maxStack := 1, maxLocals := 1, code := jdk_42_method_152_code, exceptionTable := #[], attributes := #[] }
def k7m6 : Method := { name := "coder", desc := "()B", sig := { parameters := [], returnType := some .byte }, accessFlags := 0, code := some k7c6 }
/-- java/lang/String -/
def k7 : Class := { plain "java/lang/String" (some 0) with
  accessFlags := 49
  interfaces := #[2, 3, 4, 5, 6]
  cf := some (fileOf pool7 10 #[.nestMembers #[1103]] #[{ accessFlags := 1, nameIndex := 5, descriptorIndex := 6, attributes := #[] }, { accessFlags := 1, nameIndex := 5, descriptorIndex := 1010, attributes := #[] }, { accessFlags := 1, nameIndex := 507, descriptorIndex := 334, attributes := #[] }, { accessFlags := 9, nameIndex := 782, descriptorIndex := 783, attributes := #[] }, { accessFlags := 2, nameIndex := 5, descriptorIndex := 29, attributes := #[] }, { accessFlags := 0, nameIndex := 5, descriptorIndex := 211, attributes := #[] }, { accessFlags := 0, nameIndex := 17, descriptorIndex := 337, attributes := #[] }] 49 2 #[1106, 1108, 575, 1110, 1112] #[{ accessFlags := 18, nameIndex := 13, descriptorIndex := 14, attributes := #[] }, { accessFlags := 18, nameIndex := 17, descriptorIndex := 18, attributes := #[] }, { accessFlags := 2, nameIndex := 21, descriptorIndex := 22, attributes := #[] }, { accessFlags := 2, nameIndex := 25, descriptorIndex := 26, attributes := #[] }, { accessFlags := 26, nameIndex := 1116, descriptorIndex := 1117, attributes := #[] }, { accessFlags := 24, nameIndex := 40, descriptorIndex := 26, attributes := #[] }, { accessFlags := 26, nameIndex := 1101, descriptorIndex := 1102, attributes := #[] }, { accessFlags := 26, nameIndex := 1121, descriptorIndex := 1122, attributes := #[] }, { accessFlags := 25, nameIndex := 599, descriptorIndex := 600, attributes := #[] }, { accessFlags := 24, nameIndex := 1125, descriptorIndex := 18, attributes := #[] }, { accessFlags := 24, nameIndex := 1127, descriptorIndex := 18, attributes := #[] }])
  fields := #[{ name := "value", type := (.array .byte), accessFlags := 18, slot := 0, constantValue := 0 }, { name := "coder", type := .byte, accessFlags := 18, slot := 1, constantValue := 0 }, { name := "hash", type := .int, accessFlags := 2, slot := 2, constantValue := 0 }, { name := "hashIsZero", type := .boolean, accessFlags := 2, slot := 3, constantValue := 0 }, { name := "serialVersionUID", type := .long, accessFlags := 26, slot := 0, constantValue := 0 }, { name := "COMPACT_STRINGS", type := .boolean, accessFlags := 24, slot := 1, constantValue := 0 }, { name := "serialPersistentFields", type := (.array (.object "java/io/ObjectStreamField")), accessFlags := 26, slot := 2, constantValue := 0 }, { name := "REPL", type := .char, accessFlags := 26, slot := 3, constantValue := 0 }, { name := "CASE_INSENSITIVE_ORDER", type := (.object "java/util/Comparator"), accessFlags := 25, slot := 4, constantValue := 0 }, { name := "LATIN1", type := .byte, accessFlags := 24, slot := 5, constantValue := 0 }, { name := "UTF16", type := .byte, accessFlags := 24, slot := 6, constantValue := 0 }]
  methods := #[k7m0, k7m1, k7m2, k7m3, k7m4, k7m5, k7m6]
  instanceTypes := #[(.array .byte), .byte, .int, .boolean]
  staticTypes := #[.long, .boolean, (.array (.object "java/io/ObjectStreamField")), .char, (.object "java/util/Comparator"), .byte, .byte]
  resolved := Array.replicate 1451 none
  statics := some 0 }

def pool8 : Array CpInfo := pool [(6, .class_ 8), (1, u "java/lang/Object"), (0, u "<init>"), (0, u "()V"), (1, .class_ 14), (1, u "java/lang/StringUTF16"), (31, u "$assertionsDisabled"), (0, u "Z"), (13, u "HI_BYTE_SHIFT"), (0, u "I"), (2, u "LO_BYTE_SHIFT"), (49, .methodref 12 116), (0, .nameAndType 117 118), (0, u "compress"), (0, u "([CI[BII)I"), (3, u "([CII)[B"), (138, u "coderFromArrayLen"), (0, u "([BI)B"), (106, .class_ 371), (1, u "java/lang/StringUTF16$LinesSpliterator"), (58, u "MAX_LENGTH"), (196, .class_ 628), (0, u "java/lang/StringUTF16$CodePointsSpliterator"), (0, .class_ 630), (0, u "java/lang/StringUTF16$CharsSpliterator")] 4

def k8m0 : Method := { name := "<init>", desc := "()V", sig := { parameters := [], returnType := none }, accessFlags := 0, code := none }
def k8c1 : Code := { maxStack := 2, maxLocals := 2, code := jdk_52_method_15_code, exceptionTable := #[], attributes := #[] }
def k8m1 : Method := { name := "coderFromArrayLen", desc := "([BI)B", sig := { parameters := [(.array .byte), .int], returnType := some .byte }, accessFlags := 8, code := some k8c1 }
def k8c2 : Code := { maxStack := 5, maxLocals := 6, code := jdk_52_method_16_code, exceptionTable := #[], attributes := #[] }
def k8m2 : Method := { name := "compress", desc := "([CII)[B", sig := { parameters := [(.array .char), .int, .int], returnType := some (.array .byte) }, accessFlags := 9, code := some k8c2 }
def k8c3 : Code := { maxStack := 3, maxLocals := 7, code := jdk_52_method_21_code, exceptionTable := #[], attributes := #[] }
def k8m3 : Method := { name := "compress", desc := "([CI[BII)I", sig := { parameters := [(.array .char), .int, (.array .byte), .int, .int], returnType := some .int }, accessFlags := 9, code := some k8c3 }
/-- java/lang/StringUTF16 -/
def k8 : Class := { plain "java/lang/StringUTF16" (some 0) with
  accessFlags := 48
  interfaces := #[]
  cf := some (fileOf pool8 12 #[.nestMembers #[627, 629, 369]] #[{ accessFlags := 0, nameIndex := 9, descriptorIndex := 10, attributes := #[] }, { accessFlags := 8, nameIndex := 261, descriptorIndex := 262, attributes := #[] }, { accessFlags := 9, nameIndex := 117, descriptorIndex := 122, attributes := #[] }, { accessFlags := 9, nameIndex := 117, descriptorIndex := 118, attributes := #[] }] 48 6 #[] #[{ accessFlags := 26, nameIndex := 61, descriptorIndex := 62, attributes := #[] }, { accessFlags := 26, nameIndex := 65, descriptorIndex := 62, attributes := #[] }, { accessFlags := 24, nameIndex := 430, descriptorIndex := 62, attributes := #[] }, { accessFlags := 4120, nameIndex := 46, descriptorIndex := 47, attributes := #[] }])
  fields := #[{ name := "HI_BYTE_SHIFT", type := .int, accessFlags := 26, slot := 0, constantValue := 0 }, { name := "LO_BYTE_SHIFT", type := .int, accessFlags := 26, slot := 1, constantValue := 0 }, { name := "MAX_LENGTH", type := .int, accessFlags := 24, slot := 2, constantValue := 0 }, { name := "$assertionsDisabled", type := .boolean, accessFlags := 4120, slot := 3, constantValue := 0 }]
  methods := #[k8m0, k8m1, k8m2, k8m3]
  instanceTypes := #[]
  staticTypes := #[.int, .int, .int, .boolean]
  resolved := Array.replicate 635 none
  statics := none }

def pool9 : Array CpInfo := pool [(4, .class_ 6), (1, u "java/lang/Object"), (0, u "<init>"), (0, u "()V"), (5, .class_ 16), (1, u "java/lang/StringLatin1"), (73, u "canEncode"), (14, u "(C)Z"), (15, u "$assertionsDisabled"), (0, u "Z"), (98, .class_ 223), (1, u "java/lang/StringLatin1$LinesSpliterator"), (156, u "toBytes"), (1, u "(C)[B"), (7, .class_ 391), (0, u "java/lang/StringLatin1$CharsSpliterator")] 3

def k9m0 : Method := { name := "<init>", desc := "()V", sig := { parameters := [], returnType := none }, accessFlags := 0, code := none }
def k9c1 : Code := { maxStack := 2, maxLocals := 1, code := jdk_43_method_3_code, exceptionTable := #[], attributes := #[] }
def k9m1 : Method := { name := "canEncode", desc := "(C)Z", sig := { parameters := [.char], returnType := some .boolean }, accessFlags := 9, code := some k9c1 }
def k9c2 : Code := { maxStack := 4, maxLocals := 1, code := jdk_43_method_46_code, exceptionTable := #[], attributes := #[] }
def k9m2 : Method := { name := "toBytes", desc := "(C)[B", sig := { parameters := [.char], returnType := some (.array .byte) }, accessFlags := 9, code := some k9c2 }
/-- java/lang/StringLatin1 -/
def k9 : Class := { plain "java/lang/StringLatin1" (some 0) with
  accessFlags := 48
  interfaces := #[]
  cf := some (fileOf pool9 14 #[.nestMembers #[390, 221]] #[{ accessFlags := 0, nameIndex := 7, descriptorIndex := 8, attributes := #[] }, { accessFlags := 9, nameIndex := 90, descriptorIndex := 105, attributes := #[] }, { accessFlags := 9, nameIndex := 380, descriptorIndex := 382, attributes := #[] }] 48 4 #[] #[{ accessFlags := 4120, nameIndex := 121, descriptorIndex := 122, attributes := #[] }])
  fields := #[{ name := "$assertionsDisabled", type := .boolean, accessFlags := 4120, slot := 0, constantValue := 0 }]
  methods := #[k9m0, k9m1, k9m2]
  instanceTypes := #[]
  staticTypes := #[.boolean]
  resolved := Array.replicate 395 none
  statics := none }

def pool10 : Array CpInfo := pool [(1, .methodref 2 3), (0, .class_ 4), (0, .nameAndType 5 6), (0, u "java/lang/Object"), (0, u "<init>"), (0, u "()V"), (0, .fieldref 8 9), (0, .class_ 10), (0, .nameAndType 11 12), (0, u "com/example/scholiast/scholiast/XmlEvents"), (0, u "ops"), (0, u "[I"), (0, .class_ 14), (0, u "java/lang/String"), (0, .fieldref 8 16), (0, .nameAndType 17 18), (0, u "strings"), (0, u "[Ljava/lang/String;"), (0, .fieldref 8 20), (0, .nameAndType 21 22), (0, u "bytes"), (0, u "[B"), (0, .methodref 8 24), (0, .nameAndType 25 26), (0, u "op"), (0, u "(I)V"), (0, .methodref 8 28), (0, .nameAndType 29 30), (0, u "string"), (0, u "(Ljava/lang/String;)V"), (0, .methodref 8 32), (0, .nameAndType 33 26), (0, u "ensureOps"), (0, .fieldref 8 35), (0, .nameAndType 36 37), (0, u "opCount"), (0, u "I"), (0, .fieldref 8 39), (0, .nameAndType 40 37), (0, u "lastStart"), (0, .methodref 8 42), (0, .nameAndType 43 44), (0, u "content"), (0, u "([BII)V"), (0, .fieldref 8 46), (0, .nameAndType 47 37), (0, u "releasedOps"), (0, .fieldref 8 49), (0, .nameAndType 50 37), (0, u "releasedBytes"), (0, .fieldref 8 52), (0, .nameAndType 53 54), (0, u "releasedStringChars"), (0, u "J"), (0, .fieldref 8 56), (0, .nameAndType 57 37), (0, u "byteCount"), (0, .fieldref 8 59), (0, .nameAndType 60 54), (0, u "stringChars"), (0, .fieldref 8 62), (0, .nameAndType 63 54), (0, u "opsBefore"), (0, .fieldref 8 65), (0, .nameAndType 66 54), (0, u "stringsBefore"), (0, .fieldref 8 68), (0, .nameAndType 69 37), (0, u "stringCount"), (0, .fieldref 8 71), (0, .nameAndType 72 54), (0, u "bytesBefore"), (3, u "(III)V"), (0, .methodref 8 78), (0, .nameAndType 79 76), (0, u "markReleased"), (0, .fieldref 8 81), (0, .nameAndType 82 37), (0, u "releasedStrings"), (0, .methodref 84 85), (0, .class_ 86), (0, .nameAndType 87 88), (0, u "java/lang/System"), (0, u "arraycopy"), (0, u "(Ljava/lang/Object;ILjava/lang/Object;II)V"), (0, .methodref 8 90), (0, .nameAndType 91 26), (0, u "ensureBytes"), (3, .methodref 8 96), (0, .nameAndType 97 98), (0, u "length"), (0, u "(Ljava/lang/String;)I"), (7, .methodref 13 107), (0, .nameAndType 97 108), (0, u "()I"), (12, u "DECLARATION"), (2, u "START"), (1, u "CLOSE_START"), (1, u "END"), (1, u "EMPTY_END"), (1, u "TEXT"), (1, u "CDATA"), (1, u "COMMENT"), (1, u "PROCESSING_INSTRUCTION"), (1, u "LINE_END"), (5, u "start"), (0, u "(Ljava/lang/String;Ljava/lang/String;)V"), (5, u "end"), (1, u "text"), (4, u "releasedSize"), (0, u "()J"), (5, u "(JJJ)V"), (0, u "release"), (0, u "releaseBefore")] 7

def k10c0 : Code := { maxStack := 2, maxLocals := 1, code := prog_53_method_1_code, exceptionTable := #[], attributes := #[] }
def k10m0 : Method := { name := "<init>", desc := "()V", sig := { parameters := [], returnType := none }, accessFlags := 0, code := some k10c0 }
def k10c1 : Code := { maxStack := 5, maxLocals := 3, code := prog_53_method_3_code, exceptionTable := #[], attributes := #[] }
def k10m1 : Method := { name := "start", desc := "(Ljava/lang/String;Ljava/lang/String;)V", sig := { parameters := [(.object "java/lang/String"), (.object "java/lang/String")], returnType := none }, accessFlags := 0, code := some k10c1 }
def k10c2 : Code := { maxStack := 2, maxLocals := 3, code := prog_53_method_7_code, exceptionTable := #[], attributes := #[] }
def k10m2 : Method := { name := "end", desc := "(Ljava/lang/String;Ljava/lang/String;)V", sig := { parameters := [(.object "java/lang/String"), (.object "java/lang/String")], returnType := none }, accessFlags := 0, code := some k10c2 }
def k10c3 : Code := { maxStack := 4, maxLocals := 4, code := prog_53_method_9_code, exceptionTable := #[], attributes := #[] }
def k10m3 : Method := { name := "text", desc := "([BII)V", sig := { parameters := [(.array .byte), .int, .int], returnType := none }, accessFlags := 0, code := some k10c3 }
def k10c4 : Code := { maxStack := 4, maxLocals := 1, code := prog_53_method_14_code, exceptionTable := #[], attributes := #[] }
def k10m4 : Method := { name := "releasedSize", desc := "()J", sig := { parameters := [], returnType := some .long }, accessFlags := 0, code := some k10c4 }
def k10c5 : Code := { maxStack := 4, maxLocals := 1, code := prog_53_method_20_code, exceptionTable := #[], attributes := #[] }
def k10m5 : Method := { name := "release", desc := "()V", sig := { parameters := [], returnType := none }, accessFlags := 0, code := some k10c5 }
def k10c6 : Code := { maxStack := 7, maxLocals := 7, code := prog_53_method_21_code, exceptionTable := #[], attributes := #[] }
def k10m6 : Method := { name := "releaseBefore", desc := "(JJJ)V", sig := { parameters := [.long, .long, .long], returnType := none }, accessFlags := 0, code := some k10c6 }
def k10c7 : Code := { maxStack := 5, maxLocals := 5, code := prog_53_method_26_code, exceptionTable := #[], attributes := #[] }
def k10m7 : Method := { name := "markReleased", desc := "(III)V", sig := { parameters := [.int, .int, .int], returnType := none }, accessFlags := 2, code := some k10c7 }
def k10c8 : Code := { maxStack := 5, maxLocals := 2, code := prog_53_method_28_code, exceptionTable := #[], attributes := #[] }
def k10m8 : Method := { name := "op", desc := "(I)V", sig := { parameters := [.int], returnType := none }, accessFlags := 2, code := some k10c8 }
def k10c9 : Code := { maxStack := 5, maxLocals := 4, code := prog_53_method_29_code, exceptionTable := #[], attributes := #[] }
def k10m9 : Method := { name := "content", desc := "([BII)V", sig := { parameters := [(.array .byte), .int, .int], returnType := none }, accessFlags := 2, code := some k10c9 }
def k10c10 : Code := { maxStack := 5, maxLocals := 2, code := prog_53_method_30_code, exceptionTable := #[], attributes := #[] }
def k10m10 : Method := { name := "string", desc := "(Ljava/lang/String;)V", sig := { parameters := [(.object "java/lang/String")], returnType := none }, accessFlags := 2, code := some k10c10 }
def k10c11 : Code := { maxStack := 1, maxLocals := 1, code := prog_53_method_31_code, exceptionTable := #[], attributes := #[] }
def k10m11 : Method := { name := "length", desc := "(Ljava/lang/String;)I", sig := { parameters := [(.object "java/lang/String")], returnType := some .int }, accessFlags := 10, code := some k10c11 }
def k10c12 : Code := { maxStack := 5, maxLocals := 2, code := prog_53_method_32_code, exceptionTable := #[], attributes := #[] }
def k10m12 : Method := { name := "ensureOps", desc := "(I)V", sig := { parameters := [.int], returnType := none }, accessFlags := 2, code := some k10c12 }
def k10c13 : Code := { maxStack := 5, maxLocals := 2, code := prog_53_method_33_code, exceptionTable := #[], attributes := #[] }
def k10m13 : Method := { name := "ensureBytes", desc := "(I)V", sig := { parameters := [.int], returnType := none }, accessFlags := 2, code := some k10c13 }
/-- com/example/scholiast/scholiast/XmlEvents -/
def k10 : Class := { plain "com/example/scholiast/scholiast/XmlEvents" (some 0) with
  accessFlags := 48
  interfaces := #[]
  cf := some (fileOf pool10 8 #[] #[{ accessFlags := 0, nameIndex := 5, descriptorIndex := 6, attributes := #[] }, { accessFlags := 0, nameIndex := 146, descriptorIndex := 147, attributes := #[] }, { accessFlags := 0, nameIndex := 153, descriptorIndex := 147, attributes := #[] }, { accessFlags := 0, nameIndex := 155, descriptorIndex := 44, attributes := #[] }, { accessFlags := 0, nameIndex := 160, descriptorIndex := 161, attributes := #[] }, { accessFlags := 0, nameIndex := 168, descriptorIndex := 6, attributes := #[] }, { accessFlags := 0, nameIndex := 169, descriptorIndex := 167, attributes := #[] }, { accessFlags := 2, nameIndex := 79, descriptorIndex := 76, attributes := #[] }, { accessFlags := 2, nameIndex := 25, descriptorIndex := 26, attributes := #[] }, { accessFlags := 2, nameIndex := 43, descriptorIndex := 44, attributes := #[] }, { accessFlags := 2, nameIndex := 29, descriptorIndex := 30, attributes := #[] }, { accessFlags := 10, nameIndex := 97, descriptorIndex := 98, attributes := #[] }, { accessFlags := 2, nameIndex := 33, descriptorIndex := 26, attributes := #[] }, { accessFlags := 2, nameIndex := 91, descriptorIndex := 26, attributes := #[] }] 48 2 #[] #[{ accessFlags := 24, nameIndex := 121, descriptorIndex := 37, attributes := #[] }, { accessFlags := 24, nameIndex := 124, descriptorIndex := 37, attributes := #[] }, { accessFlags := 24, nameIndex := 126, descriptorIndex := 37, attributes := #[] }, { accessFlags := 24, nameIndex := 128, descriptorIndex := 37, attributes := #[] }, { accessFlags := 24, nameIndex := 130, descriptorIndex := 37, attributes := #[] }, { accessFlags := 24, nameIndex := 132, descriptorIndex := 37, attributes := #[] }, { accessFlags := 24, nameIndex := 134, descriptorIndex := 37, attributes := #[] }, { accessFlags := 24, nameIndex := 136, descriptorIndex := 37, attributes := #[] }, { accessFlags := 24, nameIndex := 138, descriptorIndex := 37, attributes := #[] }, { accessFlags := 24, nameIndex := 140, descriptorIndex := 37, attributes := #[] }, { accessFlags := 0, nameIndex := 11, descriptorIndex := 12, attributes := #[] }, { accessFlags := 0, nameIndex := 36, descriptorIndex := 37, attributes := #[] }, { accessFlags := 0, nameIndex := 17, descriptorIndex := 18, attributes := #[] }, { accessFlags := 0, nameIndex := 69, descriptorIndex := 37, attributes := #[] }, { accessFlags := 0, nameIndex := 21, descriptorIndex := 22, attributes := #[] }, { accessFlags := 0, nameIndex := 57, descriptorIndex := 37, attributes := #[] }, { accessFlags := 2, nameIndex := 60, descriptorIndex := 54, attributes := #[] }, { accessFlags := 2, nameIndex := 53, descriptorIndex := 54, attributes := #[] }, { accessFlags := 2, nameIndex := 40, descriptorIndex := 37, attributes := #[] }, { accessFlags := 2, nameIndex := 63, descriptorIndex := 54, attributes := #[] }, { accessFlags := 2, nameIndex := 66, descriptorIndex := 54, attributes := #[] }, { accessFlags := 2, nameIndex := 72, descriptorIndex := 54, attributes := #[] }, { accessFlags := 2, nameIndex := 47, descriptorIndex := 37, attributes := #[] }, { accessFlags := 2, nameIndex := 82, descriptorIndex := 37, attributes := #[] }, { accessFlags := 2, nameIndex := 50, descriptorIndex := 37, attributes := #[] }])
  fields := #[{ name := "DECLARATION", type := .int, accessFlags := 24, slot := 0, constantValue := 0 }, { name := "START", type := .int, accessFlags := 24, slot := 1, constantValue := 0 }, { name := "CLOSE_START", type := .int, accessFlags := 24, slot := 2, constantValue := 0 }, { name := "END", type := .int, accessFlags := 24, slot := 3, constantValue := 0 }, { name := "EMPTY_END", type := .int, accessFlags := 24, slot := 4, constantValue := 0 }, { name := "TEXT", type := .int, accessFlags := 24, slot := 5, constantValue := 0 }, { name := "CDATA", type := .int, accessFlags := 24, slot := 6, constantValue := 0 }, { name := "COMMENT", type := .int, accessFlags := 24, slot := 7, constantValue := 0 }, { name := "PROCESSING_INSTRUCTION", type := .int, accessFlags := 24, slot := 8, constantValue := 0 }, { name := "LINE_END", type := .int, accessFlags := 24, slot := 9, constantValue := 0 }, { name := "ops", type := (.array .int), accessFlags := 0, slot := 0, constantValue := 0 }, { name := "opCount", type := .int, accessFlags := 0, slot := 1, constantValue := 0 }, { name := "strings", type := (.array (.object "java/lang/String")), accessFlags := 0, slot := 2, constantValue := 0 }, { name := "stringCount", type := .int, accessFlags := 0, slot := 3, constantValue := 0 }, { name := "bytes", type := (.array .byte), accessFlags := 0, slot := 4, constantValue := 0 }, { name := "byteCount", type := .int, accessFlags := 0, slot := 5, constantValue := 0 }, { name := "stringChars", type := .long, accessFlags := 2, slot := 6, constantValue := 0 }, { name := "releasedStringChars", type := .long, accessFlags := 2, slot := 7, constantValue := 0 }, { name := "lastStart", type := .int, accessFlags := 2, slot := 8, constantValue := 0 }, { name := "opsBefore", type := .long, accessFlags := 2, slot := 9, constantValue := 0 }, { name := "stringsBefore", type := .long, accessFlags := 2, slot := 10, constantValue := 0 }, { name := "bytesBefore", type := .long, accessFlags := 2, slot := 11, constantValue := 0 }, { name := "releasedOps", type := .int, accessFlags := 2, slot := 12, constantValue := 0 }, { name := "releasedStrings", type := .int, accessFlags := 2, slot := 13, constantValue := 0 }, { name := "releasedBytes", type := .int, accessFlags := 2, slot := 14, constantValue := 0 }]
  methods := #[k10m0, k10m1, k10m2, k10m3, k10m4, k10m5, k10m6, k10m7, k10m8, k10m9, k10m10, k10m11, k10m12, k10m13]
  instanceTypes := #[(.array .int), .int, (.array (.object "java/lang/String")), .int, (.array .byte), .int, .long, .long, .int, .long, .long, .long, .int, .int, .int]
  staticTypes := #[.int, .int, .int, .int, .int, .int, .int, .int, .int, .int]
  resolved := Array.replicate 177 none
  statics := none }

def pool11 : Array CpInfo := pool [(2, .class_ 4), (1, u "java/lang/Object"), (0, u "<init>"), (0, u "()V"), (1, .class_ 10), (1, u "java/lang/System"), (0, u "allowSecurityManager"), (0, u "I"), (16, u "cons"), (0, u "Ljava/io/Console;"), (77, .class_ 110), (1, u "java/lang/System$CallersHolder"), (43, u "initialErrStream"), (0, u "Ljava/io/PrintStream;"), (19, u "security"), (0, u "Ljava/lang/SecurityManager;"), (31, .class_ 209), (0, u "java/lang/System$1"), (7, u "props"), (0, u "Ljava/util/Properties;"), (2, u "lineSeparator"), (0, u "Ljava/lang/String;"), (96, .class_ 321), (1, u "java/lang/System$LoggerFinder"), (5, .class_ 328), (0, u "java/lang/System$Logger"), (67, u "err"), (2, u "out"), (91, u "notSupportedJnuEncoding"), (15, u "in"), (17, u "initialIn"), (0, u "Ljava/io/InputStream;"), (35, u "bootLayer"), (0, u "Ljava/lang/ModuleLayer;"), (99, .class_ 664), (0, u "java/lang/System$2"), (9, u "NEVER"), (2, u "MAYBE"), (49, u "arraycopy"), (0, u "(Ljava/lang/Object;ILjava/lang/Object;II)V"), (72, .class_ 802), (0, u "java/lang/System$Logger$Level")] 31

def k11m0 : Method := { name := "<init>", desc := "()V", sig := { parameters := [], returnType := none }, accessFlags := 2, code := none }
def k11m1 : Method := { name := "arraycopy", desc := "(Ljava/lang/Object;ILjava/lang/Object;II)V", sig := { parameters := [(.object "java/lang/Object"), .int, (.object "java/lang/Object"), .int, .int], returnType := none }, accessFlags := 265, code := none }
/-- java/lang/System -/
def k11 : Class := { plain "java/lang/System" (some 0) with
  accessFlags := 49
  interfaces := #[]
  cf := some (fileOf pool11 8 #[.nestMembers #[319, 327, 801, 108, 663, 208]] #[{ accessFlags := 2, nameIndex := 5, descriptorIndex := 6, attributes := #[] }, { accessFlags := 265, nameIndex := 727, descriptorIndex := 728, attributes := #[] }] 49 2 #[] #[{ accessFlags := 25, nameIndex := 507, descriptorIndex := 526, attributes := #[] }, { accessFlags := 25, nameIndex := 399, descriptorIndex := 155, attributes := #[] }, { accessFlags := 25, nameIndex := 396, descriptorIndex := 155, attributes := #[] }, { accessFlags := 10, nameIndex := 525, descriptorIndex := 526, attributes := #[] }, { accessFlags := 26, nameIndex := 674, descriptorIndex := 12, attributes := #[] }, { accessFlags := 26, nameIndex := 677, descriptorIndex := 12, attributes := #[] }, { accessFlags := 10, nameIndex := 11, descriptorIndex := 12, attributes := #[] }, { accessFlags := 74, nameIndex := 175, descriptorIndex := 176, attributes := #[] }, { accessFlags := 10, nameIndex := 491, descriptorIndex := 222, attributes := #[] }, { accessFlags := 74, nameIndex := 29, descriptorIndex := 30, attributes := #[] }, { accessFlags := 74, nameIndex := 154, descriptorIndex := 155, attributes := #[] }, { accessFlags := 10, nameIndex := 217, descriptorIndex := 218, attributes := #[] }, { accessFlags := 10, nameIndex := 221, descriptorIndex := 222, attributes := #[] }, { accessFlags := 8, nameIndex := 562, descriptorIndex := 563, attributes := #[] }])
  fields := #[{ name := "in", type := (.object "java/io/InputStream"), accessFlags := 25, slot := 0, constantValue := 0 }, { name := "out", type := (.object "java/io/PrintStream"), accessFlags := 25, slot := 1, constantValue := 0 }, { name := "err", type := (.object "java/io/PrintStream"), accessFlags := 25, slot := 2, constantValue := 0 }, { name := "initialIn", type := (.object "java/io/InputStream"), accessFlags := 10, slot := 3, constantValue := 0 }, { name := "NEVER", type := .int, accessFlags := 26, slot := 4, constantValue := 0 }, { name := "MAYBE", type := .int, accessFlags := 26, slot := 5, constantValue := 0 }, { name := "allowSecurityManager", type := .int, accessFlags := 10, slot := 6, constantValue := 0 }, { name := "security", type := (.object "java/lang/SecurityManager"), accessFlags := 74, slot := 7, constantValue := 0 }, { name := "notSupportedJnuEncoding", type := (.object "java/lang/String"), accessFlags := 10, slot := 8, constantValue := 0 }, { name := "cons", type := (.object "java/io/Console"), accessFlags := 74, slot := 9, constantValue := 0 }, { name := "initialErrStream", type := (.object "java/io/PrintStream"), accessFlags := 74, slot := 10, constantValue := 0 }, { name := "props", type := (.object "java/util/Properties"), accessFlags := 10, slot := 11, constantValue := 0 }, { name := "lineSeparator", type := (.object "java/lang/String"), accessFlags := 10, slot := 12, constantValue := 0 }, { name := "bootLayer", type := (.object "java/lang/ModuleLayer"), accessFlags := 8, slot := 13, constantValue := 0 }]
  methods := #[k11m0, k11m1]
  instanceTypes := #[]
  staticTypes := #[(.object "java/io/InputStream"), (.object "java/io/PrintStream"), (.object "java/io/PrintStream"), (.object "java/io/InputStream"), .int, .int, .int, (.object "java/lang/SecurityManager"), (.object "java/lang/String"), (.object "java/io/Console"), (.object "java/io/PrintStream"), (.object "java/util/Properties"), (.object "java/lang/String"), (.object "java/lang/ModuleLayer")]
  resolved := Array.replicate 834 none
  statics := none }

def pool12 : Array CpInfo := pool [(2, .class_ 4), (1, u "java/lang/Object"), (0, u "<init>"), (0, u "()V"), (17, .class_ 26), (1, u "jdk/internal/util/Preconditions"), (28, .class_ 56), (0, u "jdk/internal/util/Preconditions$4"), (57, .class_ 115), (0, u "jdk/internal/util/Preconditions$1"), (7, u "SIOOBE_FORMATTER"), (0, u "Ljava/util/function/BiFunction;"), (0, .class_ 126), (0, u "jdk/internal/util/Preconditions$2"), (3, u "AIOOBE_FORMATTER"), (0, .class_ 132), (0, u "jdk/internal/util/Preconditions$3"), (3, u "IOOBE_FORMATTER")] 57

def k12m0 : Method := { name := "<init>", desc := "()V", sig := { parameters := [], returnType := none }, accessFlags := 1, code := none }
/-- jdk/internal/util/Preconditions -/
def k12 : Class := { plain "jdk/internal/util/Preconditions" (some 0) with
  accessFlags := 33
  interfaces := #[]
  cf := some (fileOf pool12 24 #[.nestMembers #[55, 131, 125, 114]] #[{ accessFlags := 1, nameIndex := 5, descriptorIndex := 6, attributes := #[] }] 33 2 #[] #[{ accessFlags := 25, nameIndex := 123, descriptorIndex := 124, attributes := #[] }, { accessFlags := 25, nameIndex := 130, descriptorIndex := 124, attributes := #[] }, { accessFlags := 25, nameIndex := 136, descriptorIndex := 124, attributes := #[] }])
  fields := #[{ name := "SIOOBE_FORMATTER", type := (.object "java/util/function/BiFunction"), accessFlags := 25, slot := 0, constantValue := 0 }, { name := "AIOOBE_FORMATTER", type := (.object "java/util/function/BiFunction"), accessFlags := 25, slot := 1, constantValue := 0 }, { name := "IOOBE_FORMATTER", type := (.object "java/util/function/BiFunction"), accessFlags := 25, slot := 2, constantValue := 0 }]
  methods := #[k12m0]
  instanceTypes := #[]
  staticTypes := #[(.object "java/util/function/BiFunction"), (.object "java/util/function/BiFunction"), (.object "java/util/function/BiFunction")]
  resolved := Array.replicate 194 none
  statics := some 1 }

def pool13 : Array CpInfo := pool [(9, u "<init>"), (6, .class_ 18), (1, u "java/lang/Object"), (0, u "()V"), (1, .class_ 23), (1, u "jdk/internal/util/ArraysSupport"), (0, u "LOG2_ARRAY_LONG_INDEX_SCALE"), (0, u "I"), (2, u "U"), (0, u "Ljdk/internal/misc/Unsafe;"), (8, u "BIG_ENDIAN"), (0, u "Z"), (8, u "LOG2_BYTE_BIT_SIZE"), (4, u "LOG2_ARRAY_INT_INDEX_SCALE"), (54, u "JLA"), (0, u "Ljdk/internal/access/JavaLangAccess;"), (11, u "LOG2_ARRAY_BOOLEAN_INDEX_SCALE"), (9, u "LOG2_ARRAY_BYTE_INDEX_SCALE"), (5, u "LOG2_ARRAY_CHAR_INDEX_SCALE"), (5, u "LOG2_ARRAY_SHORT_INDEX_SCALE"), (18, u "LOG2_ARRAY_FLOAT_INDEX_SCALE"), (24, u "LOG2_ARRAY_DOUBLE_INDEX_SCALE"), (89, u "T_BOOLEAN"), (2, u "T_CHAR"), (1, u "T_FLOAT"), (1, u "T_DOUBLE"), (1, u "T_BYTE"), (1, u "T_SHORT"), (1, u "T_INT"), (1, u "T_LONG"), (1, u "SOFT_MAX_ARRAY_LENGTH")] 83

def k13m0 : Method := { name := "<init>", desc := "()V", sig := { parameters := [], returnType := none }, accessFlags := 2, code := none }
/-- jdk/internal/util/ArraysSupport -/
def k13 : Class := { plain "jdk/internal/util/ArraysSupport" (some 0) with
  accessFlags := 33
  interfaces := #[]
  cf := some (fileOf pool13 21 #[] #[{ accessFlags := 2, nameIndex := 9, descriptorIndex := 19, attributes := #[] }] 33 16 #[] #[{ accessFlags := 24, nameIndex := 28, descriptorIndex := 29, attributes := #[] }, { accessFlags := 26, nameIndex := 38, descriptorIndex := 39, attributes := #[] }, { accessFlags := 25, nameIndex := 121, descriptorIndex := 25, attributes := #[] }, { accessFlags := 25, nameIndex := 131, descriptorIndex := 25, attributes := #[] }, { accessFlags := 25, nameIndex := 137, descriptorIndex := 25, attributes := #[] }, { accessFlags := 25, nameIndex := 143, descriptorIndex := 25, attributes := #[] }, { accessFlags := 25, nameIndex := 53, descriptorIndex := 25, attributes := #[] }, { accessFlags := 25, nameIndex := 24, descriptorIndex := 25, attributes := #[] }, { accessFlags := 25, nameIndex := 162, descriptorIndex := 25, attributes := #[] }, { accessFlags := 25, nameIndex := 187, descriptorIndex := 25, attributes := #[] }, { accessFlags := 26, nameIndex := 48, descriptorIndex := 25, attributes := #[] }, { accessFlags := 25, nameIndex := 277, descriptorIndex := 25, attributes := #[] }, { accessFlags := 25, nameIndex := 280, descriptorIndex := 25, attributes := #[] }, { accessFlags := 25, nameIndex := 282, descriptorIndex := 25, attributes := #[] }, { accessFlags := 25, nameIndex := 284, descriptorIndex := 25, attributes := #[] }, { accessFlags := 25, nameIndex := 286, descriptorIndex := 25, attributes := #[] }, { accessFlags := 25, nameIndex := 288, descriptorIndex := 25, attributes := #[] }, { accessFlags := 25, nameIndex := 290, descriptorIndex := 25, attributes := #[] }, { accessFlags := 25, nameIndex := 292, descriptorIndex := 25, attributes := #[] }, { accessFlags := 26, nameIndex := 108, descriptorIndex := 109, attributes := #[] }, { accessFlags := 25, nameIndex := 294, descriptorIndex := 25, attributes := #[] }])
  fields := #[{ name := "U", type := (.object "jdk/internal/misc/Unsafe"), accessFlags := 24, slot := 0, constantValue := 0 }, { name := "BIG_ENDIAN", type := .boolean, accessFlags := 26, slot := 1, constantValue := 0 }, { name := "LOG2_ARRAY_BOOLEAN_INDEX_SCALE", type := .int, accessFlags := 25, slot := 2, constantValue := 0 }, { name := "LOG2_ARRAY_BYTE_INDEX_SCALE", type := .int, accessFlags := 25, slot := 3, constantValue := 0 }, { name := "LOG2_ARRAY_CHAR_INDEX_SCALE", type := .int, accessFlags := 25, slot := 4, constantValue := 0 }, { name := "LOG2_ARRAY_SHORT_INDEX_SCALE", type := .int, accessFlags := 25, slot := 5, constantValue := 0 }, { name := "LOG2_ARRAY_INT_INDEX_SCALE", type := .int, accessFlags := 25, slot := 6, constantValue := 0 }, { name := "LOG2_ARRAY_LONG_INDEX_SCALE", type := .int, accessFlags := 25, slot := 7, constantValue := 0 }, { name := "LOG2_ARRAY_FLOAT_INDEX_SCALE", type := .int, accessFlags := 25, slot := 8, constantValue := 0 }, { name := "LOG2_ARRAY_DOUBLE_INDEX_SCALE", type := .int, accessFlags := 25, slot := 9, constantValue := 0 }, { name := "LOG2_BYTE_BIT_SIZE", type := .int, accessFlags := 26, slot := 10, constantValue := 0 }, { name := "T_BOOLEAN", type := .int, accessFlags := 25, slot := 11, constantValue := 0 }, { name := "T_CHAR", type := .int, accessFlags := 25, slot := 12, constantValue := 0 }, { name := "T_FLOAT", type := .int, accessFlags := 25, slot := 13, constantValue := 0 }, { name := "T_DOUBLE", type := .int, accessFlags := 25, slot := 14, constantValue := 0 }, { name := "T_BYTE", type := .int, accessFlags := 25, slot := 15, constantValue := 0 }, { name := "T_SHORT", type := .int, accessFlags := 25, slot := 16, constantValue := 0 }, { name := "T_INT", type := .int, accessFlags := 25, slot := 17, constantValue := 0 }, { name := "T_LONG", type := .int, accessFlags := 25, slot := 18, constantValue := 0 }, { name := "JLA", type := (.object "jdk/internal/access/JavaLangAccess"), accessFlags := 26, slot := 19, constantValue := 0 }, { name := "SOFT_MAX_ARRAY_LENGTH", type := .int, accessFlags := 25, slot := 20, constantValue := 0 }]
  methods := #[k13m0]
  instanceTypes := #[]
  staticTypes := #[(.object "jdk/internal/misc/Unsafe"), .boolean, .int, .int, .int, .int, .int, .int, .int, .int, .int, .int, .int, .int, .int, .int, .int, .int, .int, (.object "jdk/internal/access/JavaLangAccess"), .int]
  resolved := Array.replicate 378 none
  statics := none }

def pool14 : Array CpInfo := pool [(1, u "java/lang/Cloneable"), (0, .class_ 1), (0, u "java/lang/Object"), (0, .class_ 3)] 3

/-- java/lang/Cloneable -/
def k14 : Class := { plain "java/lang/Cloneable" (some 0) with
  accessFlags := 1537
  interfaces := #[]
  cf := some (fileOf pool14 2 #[] #[] 1537 4 #[] #[])
  fields := #[]
  methods := #[]
  instanceTypes := #[]
  staticTypes := #[]
  resolved := Array.replicate 8 none
  statics := none }

/-- the primitive byte -/
def k15 : Class := { plain "byte" none with kind := .primitive 'B', accessFlags := 0x411 }
/-- [B -/
def k16 : Class := { plain "[B" (some 0) with kind := .array 15 .byte, interfaces := #[14, 2], accessFlags := 1041 }

/-- the primitive char -/
def k17 : Class := { plain "char" none with kind := .primitive 'C', accessFlags := 0x411 }
/-- [C -/
def k18 : Class := { plain "[C" (some 0) with kind := .array 17 .char, interfaces := #[14, 2], accessFlags := 1041 }

/-- the primitive int -/
def k19 : Class := { plain "int" none with kind := .primitive 'I', accessFlags := 0x411 }
/-- [I -/
def k20 : Class := { plain "[I" (some 0) with kind := .array 19 .int, interfaces := #[14, 2], accessFlags := 1041 }

/-- [Ljava/lang/String; -/
def k21 : Class := { plain "[Ljava/lang/String;" (some 0) with kind := .array 7 (.object "java/lang/String"), interfaces := #[14, 2], accessFlags := 1041 }

def heap : Heap := #[{ cls := 7, slots := #[.long 0, .int 1, .null, .int 0, .null, .int 0, .int 0], vm := .statics 7 },
  { cls := 12, slots := #[.null, .null, .null], vm := .statics 12 }]
def classes : Array Class := #[k0, k1, k2, k3, k4, k5, k6, k7, k8, k9, k10, k11, k12, k13, k14, k15, k16, k17, k18, k19, k20, k21]
def interned : List (Array UInt16 × Addr) := []
def slotsUsed : Nat := 10
def theMethod : MethodId := ⟨1, 3⟩
def args0 : Array Value := #[.int 5, .int 1, .int 3, .int 4, .int 4, .int 4]
def aboutOver (below : List Frame) : State where
  vm := { classes := classes, interned := interned.toArray }
  heap := heap
  slotsUsed := slotsUsed
  threads := #[{ frames := .invoking theMethod args0 :: below }]
def below0 : List Frame := [.native { method := ⟨0, 0⟩, args := #[] }]
def about1 : State := aboutOver below0
def p0 : Program := .bare "" "" ""
def e0 : Env := launch0.env 0 0 0
theorem w_frames : about1.frames = Frame.invoking theMethod args0 :: below0 := rfl
set_option maxRecDepth 65536 in
theorem w_args : argsFit about1.vm theMethod args0 = true := by decide +kernel
set_option maxRecDepth 65536 in
theorem w_heap : heapFits about1 = true := by decide +kernel
set_option maxRecDepth 65536 in
theorem w_runnable : about1.curStatus? = some .runnable := by decide +kernel
set_option maxRecDepth 65536 in
theorem w_alone : about1.alone = true := by decide +kernel
set_option maxRecDepth 65536 in
theorem w_named : about1.methodNamed? x = some theMethod := by decide +kernel
set_option maxRecDepth 65536 in
theorem w_hears : about1.hears theMethod below0 = true := by decide +kernel
set_option maxRecDepth 65536 in
theorem w_ripe : about1.ripe theMethod args0 below0 = true := by decide +kernel
theorem w_running : about1.status = .running := rfl
set_option maxRecDepth 65536 in
theorem w_room : about1.hasRoom e0.platform room_1 = true :=
  launch0.hasRoom_least _ room_1 (by decide +kernel) (by decide +kernel) (by decide +kernel) (by decide +kernel) (by decide +kernel) (by decide +kernel)
theorem allAtoms_all (ts : List Jvm.Cond) (a : Array Jvm.Value) (st : Jvm.State) : (allAtoms ts).before a st = ts.all (fun c => c.before a st) := by
  induction ts with
  | nil => rfl
  | cons c t ih =>
    show (Jvm.Cond.and c (allAtoms t)).before a st = _
    rw [Jvm.Cond.before_and, ih, List.all_cons]
def words1 : List Jvm.Cond := Jvm.Cond.code x code maxLocals ret :: tables_1
/-- a 'code' word, met by the world's own term for the bytes: nothing is compared byte by byte -/
theorem code_word {y : MethodName} {bytes : ByteArray} {mx : Nat} {rt : Option FieldType} {a : Array Value} {s : State} {m : MethodId} {meth : Method} {c : Code} (h1 : s.methodNamed? y = some m) (h2 : s.vm.method? m = some meth) (h3 : meth.code = some c) (h4 : c.code = bytes)
    (h5 : (c.maxLocals == mx && c.exceptionTable.isEmpty && decide (c.maxStack ≤ mostOperands) && decide (meth.sig.returnType = rt) && !meth.locks && decide (parseMethodDescriptor y.desc = some meth.sig)) = true) : (Jvm.Cond.code y bytes mx rt).before a s = true := by
  simp only [Bool.and_eq_true, beq_iff_eq, Bool.not_eq_true', decide_eq_true_eq] at h5
  obtain ⟨⟨⟨⟨⟨g1, g2⟩, g3⟩, g4⟩, g5⟩, g6⟩ := h5
  simp [Cond.before, Cond.holds, Cond.value, h1, h2, h3, h4, g1, g2, g3, g4, g5, g6]
def isCode : Jvm.Cond → Bool
  | .code _ _ _ _ => true
  | _ => false
theorem all_split {L : List Jvm.Cond} {P : Jvm.Cond → Bool} (h1 : L.all (fun c => isCode c || P c) = true) (h2 : ∀ c ∈ L.filter isCode, P c = true) : L.all P = true := by
  refine List.all_eq_true.mpr fun c hc => ?_
  have h := List.all_eq_true.mp h1 c hc
  rcases Bool.eq_false_or_eq_true (isCode c) with hi | hi
  · exact h2 c (List.mem_filter.mpr ⟨hc, hi⟩)
  · simpa [hi] using h
set_option maxRecDepth 65536 in
theorem w_c0 : (Jvm.Cond.code x code maxLocals ret).before args0 about1 = true := code_word (m := ⟨1, 3⟩) (meth := k1m3) (c := k1c3) (by decide +kernel) rfl rfl rfl (by decide +kernel)
set_option maxRecDepth 65536 in
theorem w_c1 : (Jvm.Cond.code ({ cls := "com/example/scholiast/scholiast/XmlEventsReleasedSizePinLaw", name := "str", desc := "(I)Ljava/lang/String;" } : Jvm.MethodName) method_2_code (3 : Nat) (Option.some (Jvm.ClassFile.FieldType.object "java/lang/String"))).before args0 about1 = true := code_word (m := ⟨1, 1⟩) (meth := k1m1) (c := k1c1) (by decide +kernel) rfl rfl rfl (by decide +kernel)
set_option maxRecDepth 65536 in
theorem w_c2 : (Jvm.Cond.code ({ cls := "java/lang/String", name := "<init>", desc := "([C)V" } : Jvm.MethodName) jdk_42_method_3_code (2 : Nat) (Option.none : Option Jvm.ClassFile.FieldType)).before args0 about1 = true := code_word (m := ⟨7, 1⟩) (meth := k7m1) (c := k7c1) (by decide +kernel) rfl rfl rfl (by decide +kernel)
set_option maxRecDepth 65536 in
theorem w_c3 : (Jvm.Cond.code ({ cls := "java/lang/String", name := "<init>", desc := "([CIILjava/lang/Void;)V" } : Jvm.MethodName) jdk_42_method_149_code (6 : Nat) (Option.none : Option Jvm.ClassFile.FieldType)).before args0 about1 = true := code_word (m := ⟨7, 4⟩) (meth := k7m4) (c := k7c4) (by decide +kernel) rfl rfl rfl (by decide +kernel)
set_option maxRecDepth 65536 in
theorem w_c4 : (Jvm.Cond.code ({ cls := "java/lang/Object", name := "<init>", desc := "()V" } : Jvm.MethodName) object_method_1_code (1 : Nat) (Option.none : Option Jvm.ClassFile.FieldType)).before args0 about1 = true := code_word (m := ⟨0, 0⟩) (meth := k0m0) (c := k0c0) (by decide +kernel) rfl rfl rfl (by decide +kernel)
set_option maxRecDepth 65536 in
theorem w_c5 : (Jvm.Cond.code ({ cls := "java/lang/StringUTF16", name := "compress", desc := "([CII)[B" } : Jvm.MethodName) jdk_52_method_16_code (6 : Nat) (Option.some (Jvm.ClassFile.FieldType.array Jvm.ClassFile.FieldType.byte))).before args0 about1 = true := code_word (m := ⟨8, 2⟩) (meth := k8m2) (c := k8c2) (by decide +kernel) rfl rfl rfl (by decide +kernel)
set_option maxRecDepth 65536 in
theorem w_c6 : (Jvm.Cond.code ({ cls := "java/lang/StringUTF16", name := "compress", desc := "([CI[BII)I" } : Jvm.MethodName) jdk_52_method_21_code (7 : Nat) (Option.some Jvm.ClassFile.FieldType.int)).before args0 about1 = true := code_word (m := ⟨8, 3⟩) (meth := k8m3) (c := k8c3) (by decide +kernel) rfl rfl rfl (by decide +kernel)
set_option maxRecDepth 65536 in
theorem w_c7 : (Jvm.Cond.code ({ cls := "java/lang/StringUTF16", name := "coderFromArrayLen", desc := "([BI)B" } : Jvm.MethodName) jdk_52_method_15_code (2 : Nat) (Option.some Jvm.ClassFile.FieldType.byte)).before args0 about1 = true := code_word (m := ⟨8, 1⟩) (meth := k8m1) (c := k8c1) (by decide +kernel) rfl rfl rfl (by decide +kernel)
set_option maxRecDepth 65536 in
theorem w_c8 : (Jvm.Cond.code ({ cls := "java/lang/String", name := "valueOf", desc := "(C)Ljava/lang/String;" } : Jvm.MethodName) jdk_42_method_139_code (1 : Nat) (Option.some (Jvm.ClassFile.FieldType.object "java/lang/String"))).before args0 about1 = true := code_word (m := ⟨7, 3⟩) (meth := k7m3) (c := k7c3) (by decide +kernel) rfl rfl rfl (by decide +kernel)
set_option maxRecDepth 65536 in
theorem w_c9 : (Jvm.Cond.code ({ cls := "java/lang/StringLatin1", name := "canEncode", desc := "(C)Z" } : Jvm.MethodName) jdk_43_method_3_code (1 : Nat) (Option.some Jvm.ClassFile.FieldType.boolean)).before args0 about1 = true := code_word (m := ⟨9, 1⟩) (meth := k9m1) (c := k9c1) (by decide +kernel) rfl rfl rfl (by decide +kernel)
set_option maxRecDepth 65536 in
theorem w_c10 : (Jvm.Cond.code ({ cls := "java/lang/StringLatin1", name := "toBytes", desc := "(C)[B" } : Jvm.MethodName) jdk_43_method_46_code (1 : Nat) (Option.some (Jvm.ClassFile.FieldType.array Jvm.ClassFile.FieldType.byte))).before args0 about1 = true := code_word (m := ⟨9, 2⟩) (meth := k9m2) (c := k9c2) (by decide +kernel) rfl rfl rfl (by decide +kernel)
set_option maxRecDepth 65536 in
theorem w_c11 : (Jvm.Cond.code ({ cls := "java/lang/String", name := "<init>", desc := "([BB)V" } : Jvm.MethodName) jdk_42_method_151_code (3 : Nat) (Option.none : Option Jvm.ClassFile.FieldType)).before args0 about1 = true := code_word (m := ⟨7, 5⟩) (meth := k7m5) (c := k7c5) (by decide +kernel) rfl rfl rfl (by decide +kernel)
set_option maxRecDepth 65536 in
theorem w_c12 : (Jvm.Cond.code ({ cls := "com/example/scholiast/scholiast/XmlEventsReleasedSizePinLaw", name := "len", desc := "(I)J" } : Jvm.MethodName) method_3_code (1 : Nat) (Option.some Jvm.ClassFile.FieldType.long)).before args0 about1 = true := code_word (m := ⟨1, 2⟩) (meth := k1m2) (c := k1c2) (by decide +kernel) rfl rfl rfl (by decide +kernel)
set_option maxRecDepth 65536 in
theorem w_c13 : (Jvm.Cond.code ({ cls := "com/example/scholiast/scholiast/XmlEvents", name := "<init>", desc := "()V" } : Jvm.MethodName) prog_53_method_1_code (1 : Nat) (Option.none : Option Jvm.ClassFile.FieldType)).before args0 about1 = true := code_word (m := ⟨10, 0⟩) (meth := k10m0) (c := k10c0) (by decide +kernel) rfl rfl rfl (by decide +kernel)
set_option maxRecDepth 65536 in
theorem w_c14 : (Jvm.Cond.code ({ cls := "com/example/scholiast/scholiast/XmlEvents", name := "start", desc := "(Ljava/lang/String;Ljava/lang/String;)V" } : Jvm.MethodName) prog_53_method_3_code (3 : Nat) (Option.none : Option Jvm.ClassFile.FieldType)).before args0 about1 = true := code_word (m := ⟨10, 1⟩) (meth := k10m1) (c := k10c1) (by decide +kernel) rfl rfl rfl (by decide +kernel)
set_option maxRecDepth 65536 in
theorem w_c15 : (Jvm.Cond.code ({ cls := "com/example/scholiast/scholiast/XmlEvents", name := "ensureOps", desc := "(I)V" } : Jvm.MethodName) prog_53_method_32_code (2 : Nat) (Option.none : Option Jvm.ClassFile.FieldType)).before args0 about1 = true := code_word (m := ⟨10, 12⟩) (meth := k10m12) (c := k10c12) (by decide +kernel) rfl rfl rfl (by decide +kernel)
set_option maxRecDepth 65536 in
theorem w_c16 : (Jvm.Cond.code ({ cls := "com/example/scholiast/scholiast/XmlEvents", name := "string", desc := "(Ljava/lang/String;)V" } : Jvm.MethodName) prog_53_method_30_code (2 : Nat) (Option.none : Option Jvm.ClassFile.FieldType)).before args0 about1 = true := code_word (m := ⟨10, 10⟩) (meth := k10m10) (c := k10c10) (by decide +kernel) rfl rfl rfl (by decide +kernel)
set_option maxRecDepth 65536 in
theorem w_c17 : (Jvm.Cond.code ({ cls := "com/example/scholiast/scholiast/XmlEvents", name := "length", desc := "(Ljava/lang/String;)I" } : Jvm.MethodName) prog_53_method_31_code (1 : Nat) (Option.some Jvm.ClassFile.FieldType.int)).before args0 about1 = true := code_word (m := ⟨10, 11⟩) (meth := k10m11) (c := k10c11) (by decide +kernel) rfl rfl rfl (by decide +kernel)
set_option maxRecDepth 65536 in
theorem w_c18 : (Jvm.Cond.code ({ cls := "java/lang/String", name := "length", desc := "()I" } : Jvm.MethodName) jdk_42_method_54_code (1 : Nat) (Option.some Jvm.ClassFile.FieldType.int)).before args0 about1 = true := code_word (m := ⟨7, 2⟩) (meth := k7m2) (c := k7c2) (by decide +kernel) rfl rfl rfl (by decide +kernel)
set_option maxRecDepth 65536 in
theorem w_c19 : (Jvm.Cond.code ({ cls := "java/lang/String", name := "coder", desc := "()B" } : Jvm.MethodName) jdk_42_method_152_code (1 : Nat) (Option.some Jvm.ClassFile.FieldType.byte)).before args0 about1 = true := code_word (m := ⟨7, 6⟩) (meth := k7m6) (c := k7c6) (by decide +kernel) rfl rfl rfl (by decide +kernel)
set_option maxRecDepth 65536 in
theorem w_c20 : (Jvm.Cond.code ({ cls := "com/example/scholiast/scholiast/XmlEvents", name := "text", desc := "([BII)V" } : Jvm.MethodName) prog_53_method_9_code (4 : Nat) (Option.none : Option Jvm.ClassFile.FieldType)).before args0 about1 = true := code_word (m := ⟨10, 3⟩) (meth := k10m3) (c := k10c3) (by decide +kernel) rfl rfl rfl (by decide +kernel)
set_option maxRecDepth 65536 in
theorem w_c21 : (Jvm.Cond.code ({ cls := "com/example/scholiast/scholiast/XmlEvents", name := "op", desc := "(I)V" } : Jvm.MethodName) prog_53_method_28_code (2 : Nat) (Option.none : Option Jvm.ClassFile.FieldType)).before args0 about1 = true := code_word (m := ⟨10, 8⟩) (meth := k10m8) (c := k10c8) (by decide +kernel) rfl rfl rfl (by decide +kernel)
set_option maxRecDepth 65536 in
theorem w_c22 : (Jvm.Cond.code ({ cls := "com/example/scholiast/scholiast/XmlEvents", name := "content", desc := "([BII)V" } : Jvm.MethodName) prog_53_method_29_code (4 : Nat) (Option.none : Option Jvm.ClassFile.FieldType)).before args0 about1 = true := code_word (m := ⟨10, 9⟩) (meth := k10m9) (c := k10c9) (by decide +kernel) rfl rfl rfl (by decide +kernel)
set_option maxRecDepth 65536 in
theorem w_c23 : (Jvm.Cond.code ({ cls := "com/example/scholiast/scholiast/XmlEvents", name := "ensureBytes", desc := "(I)V" } : Jvm.MethodName) prog_53_method_33_code (2 : Nat) (Option.none : Option Jvm.ClassFile.FieldType)).before args0 about1 = true := code_word (m := ⟨10, 13⟩) (meth := k10m13) (c := k10c13) (by decide +kernel) rfl rfl rfl (by decide +kernel)
set_option maxRecDepth 65536 in
theorem w_c24 : (Jvm.Cond.code ({ cls := "com/example/scholiast/scholiast/XmlEvents", name := "end", desc := "(Ljava/lang/String;Ljava/lang/String;)V" } : Jvm.MethodName) prog_53_method_7_code (3 : Nat) (Option.none : Option Jvm.ClassFile.FieldType)).before args0 about1 = true := code_word (m := ⟨10, 2⟩) (meth := k10m2) (c := k10c2) (by decide +kernel) rfl rfl rfl (by decide +kernel)
set_option maxRecDepth 65536 in
theorem w_c25 : (Jvm.Cond.code ({ cls := "com/example/scholiast/scholiast/XmlEvents", name := "release", desc := "()V" } : Jvm.MethodName) prog_53_method_20_code (1 : Nat) (Option.none : Option Jvm.ClassFile.FieldType)).before args0 about1 = true := code_word (m := ⟨10, 5⟩) (meth := k10m5) (c := k10c5) (by decide +kernel) rfl rfl rfl (by decide +kernel)
set_option maxRecDepth 65536 in
theorem w_c26 : (Jvm.Cond.code ({ cls := "com/example/scholiast/scholiast/XmlEvents", name := "markReleased", desc := "(III)V" } : Jvm.MethodName) prog_53_method_26_code (5 : Nat) (Option.none : Option Jvm.ClassFile.FieldType)).before args0 about1 = true := code_word (m := ⟨10, 7⟩) (meth := k10m7) (c := k10c7) (by decide +kernel) rfl rfl rfl (by decide +kernel)
set_option maxRecDepth 65536 in
theorem w_c27 : (Jvm.Cond.code ({ cls := "com/example/scholiast/scholiast/XmlEvents", name := "releasedSize", desc := "()J" } : Jvm.MethodName) prog_53_method_14_code (1 : Nat) (Option.some Jvm.ClassFile.FieldType.long)).before args0 about1 = true := code_word (m := ⟨10, 4⟩) (meth := k10m4) (c := k10c4) (by decide +kernel) rfl rfl rfl (by decide +kernel)
set_option maxRecDepth 65536 in
theorem w_c28 : (Jvm.Cond.code ({ cls := "com/example/scholiast/scholiast/XmlEvents", name := "releaseBefore", desc := "(JJJ)V" } : Jvm.MethodName) prog_53_method_21_code (7 : Nat) (Option.none : Option Jvm.ClassFile.FieldType)).before args0 about1 = true := code_word (m := ⟨10, 6⟩) (meth := k10m6) (c := k10c6) (by decide +kernel) rfl rfl rfl (by decide +kernel)
def codes1 : List Jvm.Cond := [Jvm.Cond.code x code maxLocals ret, Jvm.Cond.code ({ cls := "com/example/scholiast/scholiast/XmlEventsReleasedSizePinLaw", name := "str", desc := "(I)Ljava/lang/String;" } : Jvm.MethodName) method_2_code (3 : Nat) (Option.some (Jvm.ClassFile.FieldType.object "java/lang/String")), Jvm.Cond.code ({ cls := "java/lang/String", name := "<init>", desc := "([C)V" } : Jvm.MethodName) jdk_42_method_3_code (2 : Nat) (Option.none : Option Jvm.ClassFile.FieldType), Jvm.Cond.code ({ cls := "java/lang/String", name := "<init>", desc := "([CIILjava/lang/Void;)V" } : Jvm.MethodName) jdk_42_method_149_code (6 : Nat) (Option.none : Option Jvm.ClassFile.FieldType), Jvm.Cond.code ({ cls := "java/lang/Object", name := "<init>", desc := "()V" } : Jvm.MethodName) object_method_1_code (1 : Nat) (Option.none : Option Jvm.ClassFile.FieldType), Jvm.Cond.code ({ cls := "java/lang/StringUTF16", name := "compress", desc := "([CII)[B" } : Jvm.MethodName) jdk_52_method_16_code (6 : Nat) (Option.some (Jvm.ClassFile.FieldType.array Jvm.ClassFile.FieldType.byte)), Jvm.Cond.code ({ cls := "java/lang/StringUTF16", name := "compress", desc := "([CI[BII)I" } : Jvm.MethodName) jdk_52_method_21_code (7 : Nat) (Option.some Jvm.ClassFile.FieldType.int), Jvm.Cond.code ({ cls := "java/lang/StringUTF16", name := "coderFromArrayLen", desc := "([BI)B" } : Jvm.MethodName) jdk_52_method_15_code (2 : Nat) (Option.some Jvm.ClassFile.FieldType.byte), Jvm.Cond.code ({ cls := "java/lang/String", name := "valueOf", desc := "(C)Ljava/lang/String;" } : Jvm.MethodName) jdk_42_method_139_code (1 : Nat) (Option.some (Jvm.ClassFile.FieldType.object "java/lang/String")), Jvm.Cond.code ({ cls := "java/lang/StringLatin1", name := "canEncode", desc := "(C)Z" } : Jvm.MethodName) jdk_43_method_3_code (1 : Nat) (Option.some Jvm.ClassFile.FieldType.boolean), Jvm.Cond.code ({ cls := "java/lang/StringLatin1", name := "toBytes", desc := "(C)[B" } : Jvm.MethodName) jdk_43_method_46_code (1 : Nat) (Option.some (Jvm.ClassFile.FieldType.array Jvm.ClassFile.FieldType.byte)), Jvm.Cond.code ({ cls := "java/lang/String", name := "<init>", desc := "([BB)V" } : Jvm.MethodName) jdk_42_method_151_code (3 : Nat) (Option.none : Option Jvm.ClassFile.FieldType), Jvm.Cond.code ({ cls := "com/example/scholiast/scholiast/XmlEventsReleasedSizePinLaw", name := "len", desc := "(I)J" } : Jvm.MethodName) method_3_code (1 : Nat) (Option.some Jvm.ClassFile.FieldType.long), Jvm.Cond.code ({ cls := "com/example/scholiast/scholiast/XmlEvents", name := "<init>", desc := "()V" } : Jvm.MethodName) prog_53_method_1_code (1 : Nat) (Option.none : Option Jvm.ClassFile.FieldType), Jvm.Cond.code ({ cls := "com/example/scholiast/scholiast/XmlEvents", name := "start", desc := "(Ljava/lang/String;Ljava/lang/String;)V" } : Jvm.MethodName) prog_53_method_3_code (3 : Nat) (Option.none : Option Jvm.ClassFile.FieldType), Jvm.Cond.code ({ cls := "com/example/scholiast/scholiast/XmlEvents", name := "ensureOps", desc := "(I)V" } : Jvm.MethodName) prog_53_method_32_code (2 : Nat) (Option.none : Option Jvm.ClassFile.FieldType), Jvm.Cond.code ({ cls := "com/example/scholiast/scholiast/XmlEvents", name := "string", desc := "(Ljava/lang/String;)V" } : Jvm.MethodName) prog_53_method_30_code (2 : Nat) (Option.none : Option Jvm.ClassFile.FieldType), Jvm.Cond.code ({ cls := "com/example/scholiast/scholiast/XmlEvents", name := "length", desc := "(Ljava/lang/String;)I" } : Jvm.MethodName) prog_53_method_31_code (1 : Nat) (Option.some Jvm.ClassFile.FieldType.int), Jvm.Cond.code ({ cls := "java/lang/String", name := "length", desc := "()I" } : Jvm.MethodName) jdk_42_method_54_code (1 : Nat) (Option.some Jvm.ClassFile.FieldType.int), Jvm.Cond.code ({ cls := "java/lang/String", name := "coder", desc := "()B" } : Jvm.MethodName) jdk_42_method_152_code (1 : Nat) (Option.some Jvm.ClassFile.FieldType.byte), Jvm.Cond.code ({ cls := "com/example/scholiast/scholiast/XmlEvents", name := "text", desc := "([BII)V" } : Jvm.MethodName) prog_53_method_9_code (4 : Nat) (Option.none : Option Jvm.ClassFile.FieldType), Jvm.Cond.code ({ cls := "com/example/scholiast/scholiast/XmlEvents", name := "op", desc := "(I)V" } : Jvm.MethodName) prog_53_method_28_code (2 : Nat) (Option.none : Option Jvm.ClassFile.FieldType), Jvm.Cond.code ({ cls := "com/example/scholiast/scholiast/XmlEvents", name := "content", desc := "([BII)V" } : Jvm.MethodName) prog_53_method_29_code (4 : Nat) (Option.none : Option Jvm.ClassFile.FieldType), Jvm.Cond.code ({ cls := "com/example/scholiast/scholiast/XmlEvents", name := "ensureBytes", desc := "(I)V" } : Jvm.MethodName) prog_53_method_33_code (2 : Nat) (Option.none : Option Jvm.ClassFile.FieldType), Jvm.Cond.code ({ cls := "com/example/scholiast/scholiast/XmlEvents", name := "end", desc := "(Ljava/lang/String;Ljava/lang/String;)V" } : Jvm.MethodName) prog_53_method_7_code (3 : Nat) (Option.none : Option Jvm.ClassFile.FieldType), Jvm.Cond.code ({ cls := "com/example/scholiast/scholiast/XmlEvents", name := "release", desc := "()V" } : Jvm.MethodName) prog_53_method_20_code (1 : Nat) (Option.none : Option Jvm.ClassFile.FieldType), Jvm.Cond.code ({ cls := "com/example/scholiast/scholiast/XmlEvents", name := "markReleased", desc := "(III)V" } : Jvm.MethodName) prog_53_method_26_code (5 : Nat) (Option.none : Option Jvm.ClassFile.FieldType), Jvm.Cond.code ({ cls := "com/example/scholiast/scholiast/XmlEvents", name := "releasedSize", desc := "()J" } : Jvm.MethodName) prog_53_method_14_code (1 : Nat) (Option.some Jvm.ClassFile.FieldType.long), Jvm.Cond.code ({ cls := "com/example/scholiast/scholiast/XmlEvents", name := "releaseBefore", desc := "(JJJ)V" } : Jvm.MethodName) prog_53_method_21_code (7 : Nat) (Option.none : Option Jvm.ClassFile.FieldType)]
set_option maxRecDepth 65536 in
theorem codes_eq : words1.filter isCode = codes1 := rfl
theorem w_codes : ∀ c ∈ words1.filter isCode, c.before args0 about1 = true := by
  rw [codes_eq]
  intro c hc
  simp only [codes1, List.mem_cons, List.not_mem_nil, or_false] at hc
  rcases hc with rfl | rfl | rfl | rfl | rfl | rfl | rfl | rfl | rfl | rfl | rfl | rfl | rfl | rfl | rfl | rfl | rfl | rfl | rfl | rfl | rfl | rfl | rfl | rfl | rfl | rfl | rfl | rfl | rfl
  · exact w_c0
  · exact w_c1
  · exact w_c2
  · exact w_c3
  · exact w_c4
  · exact w_c5
  · exact w_c6
  · exact w_c7
  · exact w_c8
  · exact w_c9
  · exact w_c10
  · exact w_c11
  · exact w_c12
  · exact w_c13
  · exact w_c14
  · exact w_c15
  · exact w_c16
  · exact w_c17
  · exact w_c18
  · exact w_c19
  · exact w_c20
  · exact w_c21
  · exact w_c22
  · exact w_c23
  · exact w_c24
  · exact w_c25
  · exact w_c26
  · exact w_c27
  · exact w_c28
set_option maxRecDepth 65536 in
theorem w_t1 : (words1.take 24).all (fun c => isCode c || c.before args0 about1) = true := by decide +kernel
set_option maxRecDepth 65536 in
theorem w_t2 : ((words1.drop 24).take 24).all (fun c => isCode c || c.before args0 about1) = true := by decide +kernel
set_option maxRecDepth 65536 in
theorem w_t3 : (((words1.drop 24).drop 24).take 24).all (fun c => isCode c || c.before args0 about1) = true := by decide +kernel
set_option maxRecDepth 65536 in
theorem w_t4 : ((((words1.drop 24).drop 24).drop 24).take 24).all (fun c => isCode c || c.before args0 about1) = true := by decide +kernel
set_option maxRecDepth 65536 in
theorem w_t5 : (((((words1.drop 24).drop 24).drop 24).drop 24).take 24).all (fun c => isCode c || c.before args0 about1) = true := by decide +kernel
set_option maxRecDepth 65536 in
theorem w_t6 : ((((((words1.drop 24).drop 24).drop 24).drop 24).drop 24).take 24).all (fun c => isCode c || c.before args0 about1) = true := by decide +kernel
set_option maxRecDepth 65536 in
theorem w_t7 : (((((((words1.drop 24).drop 24).drop 24).drop 24).drop 24).drop 24).take 24).all (fun c => isCode c || c.before args0 about1) = true := by decide +kernel
set_option maxRecDepth 65536 in
theorem w_t8 : (((((((words1.drop 24).drop 24).drop 24).drop 24).drop 24).drop 24).drop 24).all (fun c => isCode c || c.before args0 about1) = true := by decide +kernel
theorem w_tables : (allAtoms (Jvm.Cond.code x code maxLocals ret :: tables_1)).before args0 about1 = true := by
  rw [allAtoms_all]
  show words1.all (fun c => c.before args0 about1) = true
  refine all_split ?_ w_codes
  rw [← List.take_append_drop 24 words1, List.all_append, w_t1, ← List.take_append_drop 24 (words1.drop 24), List.all_append, w_t2, ← List.take_append_drop 24 ((words1.drop 24).drop 24), List.all_append, w_t3, ← List.take_append_drop 24 (((words1.drop 24).drop 24).drop 24), List.all_append, w_t4, ← List.take_append_drop 24 ((((words1.drop 24).drop 24).drop 24).drop 24), List.all_append, w_t5, ← List.take_append_drop 24 (((((words1.drop 24).drop 24).drop 24).drop 24).drop 24), List.all_append, w_t6, ← List.take_append_drop 24 ((((((words1.drop 24).drop 24).drop 24).drop 24).drop 24).drop 24), List.all_append, w_t7, w_t8]
  rfl
set_option maxRecDepth 65536 in
theorem w_rest : rest_1_c.before args0 about1 = true := by decide +kernel
set_option maxRecDepth 65536 in
theorem w_case : (Jvm.Cond.and given_1 narrow_1).before args0 about1 = true := by decide +kernel
set_option maxRecDepth 65536 in
theorem w_consts : constsHeld consts_1 about1 := Jvm.Lit.constsHeldB_iff.mp (by decide +kernel)
theorem w_applies : (headSpec (Jvm.Cond.code x code maxLocals ret :: tables_1) room_1).applies x e0.platform about1 = true :=
  (Spec.applies_iff w_frames).mpr ⟨w_running, w_runnable, w_alone, w_named, w_hears, w_ripe, w_room, w_tables⟩
theorem atStart : AtStart classFile x code maxLocals ret World_1 tables_1 room_1 Calls_1 rest_1 Pre_1 launch0 p0 e0 about1 theMethod args0 below0 :=
  ⟨lists_1, trivial, launch0.admits_env _ _ _, launch0.least_env, fairChoices_fair.cas, fairChoices_fair.clock, w_frames, w_args, w_heap, w_applies, ⟨w_consts, trivial⟩, w_rest, w_case⟩
end start1
theorem witness_1 : WitnessClaimed_1 := ⟨start1.p0, start1.e0, start1.about1, start1.theMethod, start1.args0, start1.below0, start1.atStart⟩
end Jvm.Pilot.@@N@@
