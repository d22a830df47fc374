import JvmDerived
import JvmDerived.Pilot.@@N@@Statement
import JvmDerived.Pilot.@@N@@Code
set_option linter.unusedVariables false
set_option linter.unusedSimpArgs false
/- laws to paste: Road.backV, Road.eqW, Road.codOf (cut by pick.py; bodies as the Statement names them) -/
namespace Jvm.Pilot.@@N@@
namespace StrChars
open Jvm Sem ClassFile Op Lib Jvm.Stand Jvm.Free.XT Jvm.Free.ALB Jvm.Free.JM Jvm.Free
open Jvm.Lib.Cold (StaticIs)
/-- a char array whose places are chars -/
def Ch (a : Addr) (A : Cell) (U : State) : Prop := Arr .char a A U ∧ Typed .char A
theorem Ch.mv {a : Addr} {A : Cell} {U U' : State} (h : Ch a A U) (hal : U.vm.Alike U'.vm) (hh : U'.heap = U.heap) : Ch a A U' := ⟨h.1.mv hal hh, h.2⟩
theorem Ch.keep {a : Addr} {A : Cell} {U U' : State} (h : Ch a A U) (hal : U.vm.Alike U'.vm) (hk : U'.heap[a]? = some A) : Ch a A U' := ⟨h.1.keep hal hk, h.2⟩
/-- what place i of a char[]'s cell holds -/
def cv (A : Cell) (i : Nat) : Int32 := match A.slots[i]? with | some (.int x) => x | _ => 0
theorem Ch.get {a : Addr} {A : Cell} {U : State} (h : Ch a A U) {i : Nat} (hi : i < A.slots.size) : A.slots[i]? = some (.int (cv A i)) := by
  have e := Array.getElem?_eq_getElem hi
  have f := h.2 i _ e
  unfold cv; rw [e]
  generalize A.slots[i] = v at f
  cases v <;> simp [fits] at f ⊢
/-- the byte that i2b leaves of a char -/
def lo8 (x : Int32) : Int32 := x.toInt8.toInt32
theorem fits_lo8 (y : Int32) : fits .byte (.int (lo8 y)) = true := by
  have h1 := y.toInt8.le_toInt
  have h2 := y.toInt8.toInt_lt
  simp only [lo8, fits, Bool.and_eq_true, decide_eq_true_eq, Int32.le_iff_toInt_le, Int8.toInt_toInt32, show (-128 : Int32).toInt = -128 from by decide, show (127 : Int32).toInt = 127 from by decide]
  omega
/-- A' is A but that each place j of lo .. hi - 1 holds f j -/
def Laid (A A' : Cell) (lo hi : Nat) (f : Nat → Value) : Prop := A'.cls = A.cls ∧ A'.vm = A.vm ∧ A'.slots.size = A.slots.size ∧ ∀ i, A'.slots[i]? = if lo ≤ i ∧ i < hi then some (f i) else A.slots[i]?
theorem Laid.zero (A : Cell) (lo : Nat) (f : Nat → Value) : Laid A A lo (lo + 0) f := ⟨rfl, rfl, rfl, fun i => by rw [if_neg (by omega)]⟩
theorem Laid.step {A Ak : Cell} {lo k : Nat} {f : Nat → Value} {v : Value} (h : Laid A Ak lo k f) (hlo : lo ≤ k) (hk : k < Ak.slots.size) (hv : v = f k) : Laid A (Ak.setSlot k v) lo (k + 1) f := by
  refine ⟨h.1, h.2.1, by simpa [Cell.setSlot] using h.2.2.1, fun i => ?_⟩
  by_cases e : k = i
  · subst e; rw [Cell.slots_setSlot_self v hk, if_pos (by omega), hv]
  · rw [Cell.slots_setSlot_ne v e, h.2.2.2 i]
    by_cases q : lo ≤ i ∧ i < k
    · rw [if_pos q, if_pos (by omega)]
    · rw [if_neg q, if_neg (by omega)]
def U16 : String := "java/lang/StringUTF16"
namespace Cmp5
def yN : MethodName := ⟨"java/lang/StringUTF16", "compress", "([CI[BII)I"⟩
abbrev yB : ByteArray := jdk_52_method_21_code
theorem d0 : decode yB 0 = .ok (.iconst 0, 1) := by decide +kernel
theorem d1 : decode yB 1 = .ok (.istore 5, 2) := by decide +kernel
theorem d3 : decode yB 3 = .ok (.iload 5, 2) := by decide +kernel
theorem d5 : decode yB 5 = .ok (.iload 4, 2) := by decide +kernel
theorem d7 : decode yB 7 = .ok (.if_icmp (.ge) 37, 3) := by decide +kernel
theorem d10 : decode yB 10 = .ok (.aload_n 0, 1) := by decide +kernel
theorem d11 : decode yB 11 = .ok (.iload_n 1, 1) := by decide +kernel
theorem d12 : decode yB 12 = .ok (.caload, 1) := by decide +kernel
theorem d13 : decode yB 13 = .ok (.istore 6, 2) := by decide +kernel
theorem d15 : decode yB 15 = .ok (.iload 6, 2) := by decide +kernel
theorem d17 : decode yB 17 = .ok (.sipush 255, 3) := by decide +kernel
theorem d20 : decode yB 20 = .ok (.if_icmp (.le) 6, 3) := by decide +kernel
theorem d26 : decode yB 26 = .ok (.aload_n 2, 1) := by decide +kernel
theorem d27 : decode yB 27 = .ok (.iload_n 3, 1) := by decide +kernel
theorem d28 : decode yB 28 = .ok (.iload 6, 2) := by decide +kernel
theorem d30 : decode yB 30 = .ok (.i2b, 1) := by decide +kernel
theorem d31 : decode yB 31 = .ok (.bastore, 1) := by decide +kernel
theorem d32 : decode yB 32 = .ok (.iinc 1 1, 3) := by decide +kernel
theorem d35 : decode yB 35 = .ok (.iinc 3 1, 3) := by decide +kernel
theorem d38 : decode yB 38 = .ok (.iinc 5 1, 3) := by decide +kernel
theorem d41 : decode yB 41 = .ok (.goto (-38), 3) := by decide +kernel
theorem d44 : decode yB 44 = .ok (.iload 4, 2) := by decide +kernel
theorem d46 : decode yB 46 = .ok (.ireturn, 1) := by decide +kernel
def site : List Cond := []
def tab : Cond := tabOf yN yB 7 (some .int) site
def P (b : Addr) (A : Cell) (d : Addr) (B : Cell) (o q len : Nat) (args : Array Value) (s : State) : Prop := args = #[.ref b, .int (Int32.ofNat o), .ref d, .int (Int32.ofNat q), .int (Int32.ofNat len)] ∧ Ch b A s ∧ Arr .byte d B s ∧ b ≠ d ∧ o + len ≤ A.slots.size ∧ q + len ≤ B.slots.size ∧ ∀ i, i < len → ¬ 255 < cv A (o + i)
def E (b : Addr) (A : Cell) (d : Addr) (B : Cell) (o q len : Nat) (r : Option Value) (s u : State) : Prop := r = some (.int (Int32.ofNat len)) ∧ ∃ B', Put d B' s u ∧ Laid B B' q (q + len) (fun j => Value.int (lo8 (cv A (o + (j - q)))))
/-- no char of the range above 255: len; the places written hold each char's low byte -/
theorem law (l : Launch) (b : Addr) (A : Cell) (d : Addr) (B : Cell) (o q len : Nat) : Law l yN 5 5 0 0 yB 7 (some .int) site (P b A d B o q len) (E b A d B o q len) (copyLocs d q len) 0 0 := by
  refine Law.of_walk (plainFor_of_name (by decide +kernel)) (by decide +kernel) (by decide +kernel) (by decide) (fun _ _ h => by rw [h.1]; rfl) (fun _ U U' hal hh h => ⟨h.1, h.2.1.mv hal hh, h.2.2.1.mv hal hh, h.2.2.2⟩) (fun r U U' V V' h1 hal h2 h => ⟨h.1, h.2.elim fun B' q => ⟨B', q.1.mv h1 h2, q.2⟩⟩) ?_
  intro p e s m args below meth c s₁ X0 hexec hbytes hml hret hlk hnm hown hh0 W hP
  obtain ⟨rfl, hA, hB, hne, l1, l2, hp⟩ := hP
  have c1 : Steps p.tables e below (s₁.setTop (entryFrame m #[.ref b, .int (Int32.ofNat o), .ref d, .int (Int32.ofNat q), .int (Int32.ofNat len)] 7)) (s₁.setTop (mkF m 0 #[.val (.ref b), .val (.int (Int32.ofNat o)), .val (.ref d), .val (.int (Int32.ofNat q)), .val (.int (Int32.ofNat len)), .unset, .unset] [])) := entry rfl
  have hA0 := hA.1.mv X0.warmed.alike hh0
  have hB0 := hB.mv X0.warmed.alike hh0
  have a31 := hA.1.2.2.2
  have c2 : Steps p.tables e below (s₁.setTop (entryFrame m #[.ref b, .int (Int32.ofNat o), .ref d, .int (Int32.ofNat q), .int (Int32.ofNat len)] 7)) (s₁.setTop (mkF m 3 #[.val (.ref b), .val (.int (Int32.ofNat o)), .val (.ref d), .val (.int (Int32.ofNat q)), .val (.int (Int32.ofNat len)), .val (.int 0), .unset] [])) := c1.trans (by
    refine iconstV X0.here hexec rfl 0 (hb hbytes d0) (by decide) ?_
    refine XS.istore X0.here hexec rfl (hb hbytes d1) rfl rfl ?_
    exact Steps.refl _)
  have loop : ∀ (r i : Nat), i + r = len → ∀ (z : Slot), (z = .unset ∨ ∃ w, z = .val w ∧ w.category = 1) → ∀ (Tl : State) (Bk : Cell), Stand p l e { frames := 0, locals := 0, cells := 0, slots := 0 } s m #[.ref b, .int (Int32.ofNat o), .ref d, .int (Int32.ofNat q), .int (Int32.ofNat len)] below meth c Tl ([] ++ copyLocs d q i) 0 0 → Put d Bk s₁ Tl → Laid B Bk q (q + i) (fun j => Value.int (lo8 (cv A (o + (j - q))))) →
      Steps p.tables e below (s₁.setTop (entryFrame m #[.ref b, .int (Int32.ofNat o), .ref d, .int (Int32.ofNat q), .int (Int32.ofNat len)] 7)) (Tl.setTop (mkF m 3 #[.val (.ref b), .val (.int (Int32.ofNat (o + i))), .val (.ref d), .val (.int (Int32.ofNat (q + i))), .val (.int (Int32.ofNat len)), .val (.int (Int32.ofNat i)), z] [])) → ∃ (T' : State) (B' : Cell) (z' : Slot), Stand p l e { frames := 0, locals := 0, cells := 0, slots := 0 } s m #[.ref b, .int (Int32.ofNat o), .ref d, .int (Int32.ofNat q), .int (Int32.ofNat len)] below meth c T' ([] ++ copyLocs d q len) 0 0 ∧ Put d B' s₁ T' ∧ Laid B B' q (q + len) (fun j => Value.int (lo8 (cv A (o + (j - q))))) ∧
      Steps p.tables e below (s₁.setTop (entryFrame m #[.ref b, .int (Int32.ofNat o), .ref d, .int (Int32.ofNat q), .int (Int32.ofNat len)] 7)) (T'.setTop (mkF m 3 #[.val (.ref b), .val (.int (Int32.ofNat (o + len))), .val (.ref d), .val (.int (Int32.ofNat (q + len))), .val (.int (Int32.ofNat len)), .val (.int (Int32.ofNat len)), z'] [])) := by
    intro r
    induction r with
    | zero =>
      intro i hi z hz Tl Bk Xl pl fl cl
      have hil : i = len := by omega
      rw [hil] at Xl fl cl
      exact ⟨Tl, Bk, z, Xl, pl, fl, cl⟩
    | succ r ih =>
      intro i hi z hz Tl Bk Xl pl fl cl
      have all := X0.warmed.alike.symm.trans Xl.warmed.alike
      have hAl := hA0.keep all (pl.other hne hA0.1)
      have hBk := hB0.like all pl.1 fl.1 fl.2.1 fl.2.2.1
      have hlt : q + i < Bk.slots.size := by rw [fl.2.2.1]; omega
      have c3 : Steps p.tables e below (s₁.setTop (entryFrame m #[.ref b, .int (Int32.ofNat o), .ref d, .int (Int32.ofNat q), .int (Int32.ofNat len)] 7)) (Tl.setTop (mkF m 12 #[.val (.ref b), .val (.int (Int32.ofNat (o + i))), .val (.ref d), .val (.int (Int32.ofNat (q + i))), .val (.int (Int32.ofNat len)), .val (.int (Int32.ofNat i)), z] [.int (Int32.ofNat (o + i)), .ref b])) := cl.trans (by
        refine XS.iload Xl.here hexec rfl (hb hbytes d3) rfl ?_
        refine XS.iload Xl.here hexec rfl (hb hbytes d5) rfl ?_
        refine XS.icmpNo Xl.here hexec rfl (hb hbytes d7) rfl (ii_ge_f (lt32 (by omega) (by omega))) ?_
        refine XS.aloadN Xl.here hexec rfl (hb hbytes d10) rfl rfl ?_
        refine XS.iloadN Xl.here hexec rfl (hb hbytes d11) rfl ?_
        exact Steps.refl _)
      have c4 : Steps p.tables e below (s₁.setTop (entryFrame m #[.ref b, .int (Int32.ofNat o), .ref d, .int (Int32.ofNat q), .int (Int32.ofNat len)] 7)) (Tl.setTop (mkF m 13 #[.val (.ref b), .val (.int (Int32.ofNat (o + i))), .val (.ref d), .val (.int (Int32.ofNat (q + i))), .val (.int (Int32.ofNat len)), .val (.int (Int32.ofNat i)), z] [.int (cv A (o + i))])) := c3.trans (by
        refine Xl.aget hexec hAl rfl (hA.get (i := o + i) (by omega)) rfl rfl (hb hbytes d12) ?_
        exact Steps.refl _)
      have c5 : Steps p.tables e below (s₁.setTop (entryFrame m #[.ref b, .int (Int32.ofNat o), .ref d, .int (Int32.ofNat q), .int (Int32.ofNat len)] 7)) (Tl.setTop (mkF m 15 #[.val (.ref b), .val (.int (Int32.ofNat (o + i))), .val (.ref d), .val (.int (Int32.ofNat (q + i))), .val (.int (Int32.ofNat len)), .val (.int (Int32.ofNat i)), .val (.int (cv A (o + i)))] [])) := c4.trans (by
        refine XS.istoreS Xl.here hexec rfl (hb hbytes d13) rfl rfl hz ?_
        exact Steps.refl _)
      have c6 : Steps p.tables e below (s₁.setTop (entryFrame m #[.ref b, .int (Int32.ofNat o), .ref d, .int (Int32.ofNat q), .int (Int32.ofNat len)] 7)) (Tl.setTop (mkF m 31 #[.val (.ref b), .val (.int (Int32.ofNat (o + i))), .val (.ref d), .val (.int (Int32.ofNat (q + i))), .val (.int (Int32.ofNat len)), .val (.int (Int32.ofNat i)), .val (.int (cv A (o + i)))] [.int (lo8 (cv A (o + i))), .int (Int32.ofNat (q + i)), .ref d])) := c5.trans (by
        refine XS.iload Xl.here hexec rfl (hb hbytes d15) rfl ?_
        refine sipushV Xl.here hexec rfl 255 (hb hbytes d17) (by decide) ?_
        refine XS.icmpYes Xl.here hexec rfl (pc0 := 20) rfl (hb hbytes d20) rfl (ii_le_t (hp i (by omega))) (by decide) rfl ?_
        refine XS.aloadN Xl.here hexec rfl (hb hbytes d26) rfl rfl ?_
        refine XS.iloadN Xl.here hexec rfl (hb hbytes d27) rfl ?_
        refine XS.iload Xl.here hexec rfl (hb hbytes d28) rfl ?_
        refine i2b Xl.here hexec rfl (hb hbytes d30) rfl ?_
        exact Steps.refl _)
      obtain ⟨T7, X7, p7, st7⟩ := Xl.aput hexec hBk rfl hlt rfl (fits_lo8 (cv A (o + i))) (g := (mkF m 31 #[.val (.ref b), .val (.int (Int32.ofNat (o + i))), .val (.ref d), .val (.int (Int32.ofNat (q + i))), .val (.int (Int32.ofNat len)), .val (.int (Int32.ofNat i)), .val (.int (cv A (o + i)))] [.int (lo8 (cv A (o + i))), .int (Int32.ofNat (q + i)), .ref d])) rfl (rest := []) rfl (hb hbytes d31)
      have c8 : Steps p.tables e below (s₁.setTop (entryFrame m #[.ref b, .int (Int32.ofNat o), .ref d, .int (Int32.ofNat q), .int (Int32.ofNat len)] 7)) (T7.setTop (mkF m 32 #[.val (.ref b), .val (.int (Int32.ofNat (o + i))), .val (.ref d), .val (.int (Int32.ofNat (q + i))), .val (.int (Int32.ofNat len)), .val (.int (Int32.ofNat i)), .val (.int (cv A (o + i)))] [])) := c6.trans (st7 _ (Steps.refl _))
      have c9 : Steps p.tables e below (s₁.setTop (entryFrame m #[.ref b, .int (Int32.ofNat o), .ref d, .int (Int32.ofNat q), .int (Int32.ofNat len)] 7)) (T7.setTop (mkF m 3 #[.val (.ref b), .val (.int (Int32.ofNat (o + i) + 1)), .val (.ref d), .val (.int (Int32.ofNat (q + i) + 1)), .val (.int (Int32.ofNat len)), .val (.int (Int32.ofNat i + 1)), .val (.int (cv A (o + i)))] [])) := c8.trans (by
        refine iincV X7.here hexec rfl 1 (hb hbytes d32) (by decide) rfl rfl ?_
        refine iincV X7.here hexec rfl 1 (hb hbytes d35) (by decide) rfl rfl ?_
        refine iincV X7.here hexec rfl 1 (hb hbytes d38) (by decide) rfl rfl ?_
        refine XS.goto X7.here hexec rfl (pc0 := 41) rfl (hb hbytes d41) (by decide) rfl ?_
        exact Steps.refl _)
      have c10 : Steps p.tables e below (s₁.setTop (entryFrame m #[.ref b, .int (Int32.ofNat o), .ref d, .int (Int32.ofNat q), .int (Int32.ofNat len)] 7)) (T7.setTop (mkF m 3 #[.val (.ref b), .val (.int (Int32.ofNat (o + (i + 1)))), .val (.ref d), .val (.int (Int32.ofNat (q + (i + 1)))), .val (.int (Int32.ofNat len)), .val (.int (Int32.ofNat (i + 1))), .val (.int (cv A (o + i)))] [])) := by
        have := c9
        rw [succ32, succ32, succ32] at this
        exact this
      exact ih (i + 1) (by omega) _ (Or.inr ⟨_, rfl, rfl⟩) T7 _ (by rw [copyLocs_step, ← List.append_assoc]; exact X7) (pl.trans p7) (fl.step (by omega) hlt (by simp)) c10
  obtain ⟨T9, B9, z9, X9, p9, f9, g9⟩ := loop len 0 (by omega) .unset (Or.inl rfl) s₁ B (by simpa [copyLocs] using X0) ⟨hB0.1, fun _ _ => rfl, rfl⟩ (Laid.zero _ _ _) c2
  have c11 : Steps p.tables e below (s₁.setTop (entryFrame m #[.ref b, .int (Int32.ofNat o), .ref d, .int (Int32.ofNat q), .int (Int32.ofNat len)] 7)) (T9.setTop (mkF m 46 #[.val (.ref b), .val (.int (Int32.ofNat (o + len))), .val (.ref d), .val (.int (Int32.ofNat (q + len))), .val (.int (Int32.ofNat len)), .val (.int (Int32.ofNat len)), z9] [.int (Int32.ofNat len)])) := g9.trans (by
    refine XS.iload X9.here hexec rfl (hb hbytes d3) rfl ?_
    refine XS.iload X9.here hexec rfl (hb hbytes d5) rfl ?_
    refine XS.icmpYes X9.here hexec rfl (pc0 := 7) rfl (hb hbytes d7) rfl (ii_ge_t (nlt32 (by omega) (Nat.le_refl _))) (by decide) rfl ?_
    refine XS.iload X9.here hexec rfl (hb hbytes d44) rfl ?_
    exact Steps.refl _)
  exact ⟨T9, some (.int (Int32.ofNat len)), _, _, _, X9, by simp, rfl, rfl, (fun h => by cases h), ⟨rfl, B9, p9.from hh0, f9⟩, fun fs hl => c11.trans (X9.ireturnOut hexec hret rfl (Or.inl rfl) (hb hbytes d46) hl)⟩
end Cmp5
namespace Cmp3
def yN : MethodName := ⟨"java/lang/StringUTF16", "compress", "([CII)[B"⟩
abbrev yB : ByteArray := jdk_52_method_16_code
theorem d0 : decode yB 0 = .ok (.iload_n 2, 1) := by decide +kernel
theorem d1 : decode yB 1 = .ok (.newarray .byte, 2) := by decide +kernel
theorem d3 : decode yB 3 = .ok (.astore_n 3, 1) := by decide +kernel
theorem d4 : decode yB 4 = .ok (.aload_n 0, 1) := by decide +kernel
theorem d5 : decode yB 5 = .ok (.iload_n 1, 1) := by decide +kernel
theorem d6 : decode yB 6 = .ok (.aload_n 3, 1) := by decide +kernel
theorem d7 : decode yB 7 = .ok (.iconst 0, 1) := by decide +kernel
theorem d8 : decode yB 8 = .ok (.iload_n 2, 1) := by decide +kernel
theorem d9 : decode yB 9 = .ok (.invokestatic 115, 3) := by decide +kernel
theorem d12 : decode yB 12 = .ok (.istore 4, 2) := by decide +kernel
theorem d14 : decode yB 14 = .ok (.iload 4, 2) := by decide +kernel
theorem d16 : decode yB 16 = .ok (.iload_n 2, 1) := by decide +kernel
theorem d17 : decode yB 17 = .ok (.if_icmp (.eq) 40, 3) := by decide +kernel
theorem d57 : decode yB 57 = .ok (.aload_n 3, 1) := by decide +kernel
theorem d58 : decode yB 58 = .ok (.areturn, 1) := by decide +kernel
def site : List Cond := [.arrayClass .byte, Cmp5.tab] ++ staticW U16 115 Cmp5.yN
def tab : Cond := tabOf yN yB 6 (some (.array .byte)) site
def P (b : Addr) (A : Cell) (o len : Nat) (args : Array Value) (s : State) : Prop := args = #[.ref b, .int (Int32.ofNat o), .int (Int32.ofNat len)] ∧ Ch b A s ∧ o + len ≤ A.slots.size ∧ len ≤ 536870912 ∧ ∀ i, i < len → ¬ 255 < cv A (o + i)
def E (b : Addr) (A : Cell) (o len : Nat) (r : Option Value) (s u : State) : Prop := NewArr .byte "[B" len (fun j => .int (lo8 (cv A (o + j)))) r s u ∧ u.heap.size = s.heap.size + 1
/-- no char of the range above 255: a new byte[] of their low bytes -/
theorem law (l : Launch) (b : Addr) (A : Cell) (o len : Nat) : Law l yN 3 3 1 18 yB 6 (some (.array .byte)) site (P b A o len) (E b A o len) [] 1 len := by
  refine Law.of_walk (plainFor_of_name (by decide +kernel)) (by decide +kernel) (by decide +kernel) (by decide) (fun _ _ h => by rw [h.1]; rfl) (fun _ U U' hal hh h => ⟨h.1, h.2.1.mv hal hh, h.2.2⟩) (fun r U U' V V' h1 hal h2 h => ⟨NewArr.mv r U U' V V' h1 hal h2 h.1, by rw [h1, h2]; exact h.2⟩) ?_
  intro p e s m args below meth c s₁ X0 hexec hbytes hml hret hlk hnm hown hh0 W hP
  obtain ⟨rfl, hA, l1, l2, hp⟩ := hP
  have a31 := hA.1.2.2.2
  have c1 : Steps p.tables e below (s₁.setTop (entryFrame m #[.ref b, .int (Int32.ofNat o), .int (Int32.ofNat len)] 6)) (s₁.setTop (mkF m 0 #[.val (.ref b), .val (.int (Int32.ofNat o)), .val (.int (Int32.ofNat len)), .unset, .unset, .unset] [])) := entry rfl
  have c2 : Steps p.tables e below (s₁.setTop (entryFrame m #[.ref b, .int (Int32.ofNat o), .int (Int32.ofNat len)] 6)) (s₁.setTop (mkF m 1 #[.val (.ref b), .val (.int (Int32.ofNat o)), .val (.int (Int32.ofNat len)), .unset, .unset, .unset] [.int (Int32.ofNat len)])) := c1.trans (by
    refine XS.iloadN X0.here hexec rfl (hb hbytes d0) rfl ?_
    exact Steps.refl _)
  obtain ⟨T3, B3, X3, ba3, bs3, bv3, bh3, bf3, st3⟩ := X0.anew hexec (atype := .byte) (wk W (.arrayClass .byte)) rfl (by show len * 1 ≤ _; omega) (by omega) (g := (mkF m 1 #[.val (.ref b), .val (.int (Int32.ofNat o)), .val (.int (Int32.ofNat len)), .unset, .unset, .unset] [.int (Int32.ofNat len)])) rfl (hb hbytes d1) (rest := []) rfl (Nat.le_refl _) (by show 0 + len ≤ len; omega)
  rw [hh0] at ba3 st3
  have kp3 : XT.Kept s T3 := (XT.Kept.of_eq hh0).push bh3
  have hA3 := hA.keep X3.warmed.alike (kp3 _ _ hA.1.1)
  have hne : b ≠ s.heap.size := hA.1.ne
  have c4 : Steps p.tables e below (s₁.setTop (entryFrame m #[.ref b, .int (Int32.ofNat o), .int (Int32.ofNat len)] 6)) (T3.setTop (mkF m 3 #[.val (.ref b), .val (.int (Int32.ofNat o)), .val (.int (Int32.ofNat len)), .unset, .unset, .unset] [.ref s.heap.size])) := c2.trans (st3 _ (Steps.refl _))
  have c5 : Steps p.tables e below (s₁.setTop (entryFrame m #[.ref b, .int (Int32.ofNat o), .int (Int32.ofNat len)] 6)) (T3.setTop (mkF m 9 #[.val (.ref b), .val (.int (Int32.ofNat o)), .val (.int (Int32.ofNat len)), .val (.ref s.heap.size), .unset, .unset] [.int (Int32.ofNat len), .int 0, .ref s.heap.size, .int (Int32.ofNat o), .ref b])) := c4.trans (by
    refine XS.astoreN X3.here hexec rfl (hb hbytes d3) rfl rfl rfl ?_
    refine XS.aloadN X3.here hexec rfl (hb hbytes d4) rfl rfl ?_
    refine XS.iloadN X3.here hexec rfl (hb hbytes d5) rfl ?_
    refine XS.aloadN X3.here hexec rfl (hb hbytes d6) rfl rfl ?_
    refine iconstV X3.here hexec rfl 0 (hb hbytes d7) (by decide) ?_
    refine XS.iloadN X3.here hexec rfl (hb hbytes d8) rfl ?_
    exact Steps.refl _)
  obtain ⟨v6, T6, X6, E6, g6⟩ := X3.callS hexec (Cmp5.law l b A s.heap.size B3 o 0 len) hown (wks W (staticW U16 115 Cmp5.yN)) (wk W Cmp5.tab) (W := 0) (Nat.le_of_ble_eq_true rfl) (Nat.le_of_ble_eq_true rfl) (Nat.le_refl _) (by show 0 + len + 0 ≤ len; omega) (g := (mkF m 9 #[.val (.ref b), .val (.int (Int32.ofNat o)), .val (.int (Int32.ofNat len)), .val (.ref s.heap.size), .unset, .unset] [.int (Int32.ofNat len), .int (Int32.ofNat 0), .ref s.heap.size, .int (Int32.ofNat o), .ref b])) rfl (by rw [hml]; rfl) c5 (argsL := [.ref b, .int (Int32.ofNat o), .ref s.heap.size, .int (Int32.ofNat 0), .int (Int32.ofNat len)]) (rest := []) rfl rfl (by show 2 * 0 + 0 ≤ _; decide) (hb hbytes d9) (⟨rfl, hA3, ba3, hne, l1, by rw [bs3]; simp, hp⟩)
  obtain ⟨rfl, B6, p6, f6⟩ := E6
  have c7 : Steps p.tables e below (s₁.setTop (entryFrame m #[.ref b, .int (Int32.ofNat o), .int (Int32.ofNat len)] 6)) (T6.setTop (mkF m 12 #[.val (.ref b), .val (.int (Int32.ofNat o)), .val (.int (Int32.ofNat len)), .val (.ref s.heap.size), .unset, .unset] [.int (Int32.ofNat len)])) := g6
  have c8 : Steps p.tables e below (s₁.setTop (entryFrame m #[.ref b, .int (Int32.ofNat o), .int (Int32.ofNat len)] 6)) (T6.setTop (mkF m 58 #[.val (.ref b), .val (.int (Int32.ofNat o)), .val (.int (Int32.ofNat len)), .val (.ref s.heap.size), .val (.int (Int32.ofNat len)), .unset] [.ref s.heap.size])) := c7.trans (by
    refine XS.istore X6.here hexec rfl (hb hbytes d12) rfl rfl ?_
    refine XS.iload X6.here hexec rfl (hb hbytes d14) rfl ?_
    refine XS.iloadN X6.here hexec rfl (hb hbytes d16) rfl ?_
    refine XS.icmpYes X6.here hexec rfl (pc0 := 17) rfl (hb hbytes d17) rfl (ii_eq_t rfl) (by decide) rfl ?_
    refine XS.aloadN X6.here hexec rfl (hb hbytes d57) rfl rfl ?_
    exact Steps.refl _)
  have X8 := X6.wide (L' := []) (cells' := 1) (slots' := len) (fun x hx hlt => by
    simp only [List.nil_append, copyLocs, List.mem_map, List.mem_range] at hx
    obtain ⟨i, -, rfl⟩ := hx
    exact absurd hlt (Nat.lt_irrefl _)) (Nat.le_refl _) (by omega)
  exact ⟨T6, some (.ref s.heap.size), _, _, _, X8, rfl, rfl, rfl, (fun h => by cases h), ⟨⟨rfl, B6, ba3.like (X3.warmed.alike.symm.trans X6.warmed.alike) p6.1 f6.1 f6.2.1 f6.2.2.1, f6.2.1.trans bv3, by rw [X6.warmed.alike.findClass, f6.1]; exact bf3, by rw [f6.2.2.1, bs3]; simp, fun j hj => by rw [f6.2.2.2 j, if_pos (by omega)]; rfl, kp3.put p6 (Nat.le_refl _)⟩, by rw [p6.2.2, bh3, hh0]; simp⟩, fun fs hl => c8.trans (X8.areturnOut hexec rfl hret rfl (hb hbytes d58) hl)⟩
end Cmp3
namespace CodL
def yN : MethodName := ⟨"java/lang/StringUTF16", "coderFromArrayLen", "([BI)B"⟩
abbrev yB : ByteArray := jdk_52_method_15_code
theorem d0 : decode yB 0 = .ok (.iload_n 1, 1) := by decide +kernel
theorem d1 : decode yB 1 = .ok (.aload_n 0, 1) := by decide +kernel
theorem d2 : decode yB 2 = .ok (.arraylength, 1) := by decide +kernel
theorem d3 : decode yB 3 = .ok (.isub, 1) := by decide +kernel
theorem d4 : decode yB 4 = .ok (.bipush 31, 2) := by decide +kernel
theorem d6 : decode yB 6 = .ok (.iushr, 1) := by decide +kernel
theorem d7 : decode yB 7 = .ok (.i2b, 1) := by decide +kernel
theorem d8 : decode yB 8 = .ok (.ireturn, 1) := by decide +kernel
def site : List Cond := []
def tab : Cond := tabOf yN yB 2 (some .byte) site
def P (d : Addr) (B : Cell) (args : Array Value) (s : State) : Prop := args = #[.ref d, .int (Int32.ofNat B.slots.size)] ∧ Arr .byte d B s
def E (r : Option Value) (s u : State) : Prop := XT.PureE (some (.int 0)) r s u
/-- an array as long as the number of chars: LATIN1 -/
theorem law (l : Launch) (d : Addr) (B : Cell) : Law l yN 2 2 0 0 yB 2 (some .byte) site (P d B) E [] 0 0 := by
  refine Law.of_walk (plainFor_of_name (by decide +kernel)) (by decide +kernel) (by decide +kernel) (by decide) (fun _ _ h => by rw [h.1]; rfl) (fun _ U U' hal hh h => ⟨h.1, h.2.mv hal hh⟩) (fun r U U' V V' h1 hal h2 h => XT.PureE.mv r U U' V V' h1 hal h2 h) ?_
  intro p e s m args below meth c s₁ X0 hexec hbytes hml hret hlk hnm hown hh0 W hP
  obtain ⟨rfl, hB⟩ := hP
  have hB0 := hB.mv X0.warmed.alike hh0
  have c1 : Steps p.tables e below (s₁.setTop (entryFrame m #[.ref d, .int (Int32.ofNat B.slots.size)] 2)) (s₁.setTop (mkF m 0 #[.val (.ref d), .val (.int (Int32.ofNat B.slots.size))] [])) := entry rfl
  have c2 : Steps p.tables e below (s₁.setTop (entryFrame m #[.ref d, .int (Int32.ofNat B.slots.size)] 2)) (s₁.setTop (mkF m 2 #[.val (.ref d), .val (.int (Int32.ofNat B.slots.size))] [.ref d, .int (Int32.ofNat B.slots.size)])) := c1.trans (by
    refine XS.iloadN X0.here hexec rfl (hb hbytes d0) rfl ?_
    refine XS.aloadN X0.here hexec rfl (hb hbytes d1) rfl rfl ?_
    exact Steps.refl _)
  have c3 : Steps p.tables e below (s₁.setTop (entryFrame m #[.ref d, .int (Int32.ofNat B.slots.size)] 2)) (s₁.setTop (mkF m 8 #[.val (.ref d), .val (.int (Int32.ofNat B.slots.size))] [.int (lo8 (ushr (Int32.ofNat B.slots.size - Int32.ofNat B.slots.size) 31))])) := c2.trans (by
    refine X0.alen hexec hB0 rfl rfl (hb hbytes d2) ?_
    refine XS.isub X0.here hexec rfl (hb hbytes d3) rfl ?_
    refine bipushV X0.here hexec rfl 31 (hb hbytes d4) (by decide) ?_
    refine iushr X0.here hexec rfl (hb hbytes d6) rfl ?_
    refine i2b X0.here hexec rfl (hb hbytes d7) rfl ?_
    exact Steps.refl _)
  have e0 : lo8 (ushr (Int32.ofNat B.slots.size - Int32.ofNat B.slots.size) 31) = 0 := by rw [Int32.sub_self]; decide
  rw [e0] at c3
  exact ⟨s₁, some (.int 0), _, _, _, X0, rfl, rfl, rfl, (fun h => by cases h), ⟨rfl, hh0⟩, fun fs hl => c3.trans (X0.ireturnOut hexec hret rfl (Or.inr (Or.inr (Or.inl rfl))) (hb hbytes d8) hl)⟩
end CodL
/-- the String at a is Latin-1 over a new byte[] (the heap's one new cell): the low bytes of the len chars of A from o on; every cell but a is kept -/
def Got (a : Addr) (D : Cell) (fV fC : Field) (A : Cell) (o len : Nat) (r : Option Value) (s u : State) : Prop := r = none ∧ ∃ D' V : Cell, Blank "java/lang/String" a D' u ∧ Same D D' [fV.slot, fC.slot] ∧ D'.slots[fV.slot]? = some (.ref s.heap.size) ∧ D'.slots[fC.slot]? = some (.int 0) ∧ Arr .byte s.heap.size V u ∧ V.vm = .none ∧ u.vm.findClass "[B" = some V.cls ∧ V.slots.size = len ∧ (∀ j, j < len → V.slots[j]? = some (.int (lo8 (cv A (o + j))))) ∧ (∀ (y : Addr) (c : Cell), y ≠ a → s.heap[y]? = some c → u.heap[y]? = some c) ∧ u.heap.size = s.heap.size + 1
theorem Got.mv {a : Addr} {D A : Cell} {fV fC : Field} {o len : Nat} : ∀ r (U U' V V' : State), U'.heap = U.heap → V.vm.Alike V'.vm → V'.heap = V.heap → Got a D fV fC A o len r U V → Got a D fV fC A o len r U' V' :=
  fun r U U' V V' h1 hal h2 ⟨e0, D', X, a1, a2, a3, a4, a5, a6, a7, a8, a9, a10, a11⟩ => ⟨e0, D', X, a1.mv hal h2, a2, by rw [h1]; exact a3, a4, by rw [h1]; exact a5.mv hal h2, a6, by rw [hal.findClass]; exact a7, a8, a9, by rw [h1, h2]; exact a10, by rw [h1, h2]; exact a11⟩
namespace New4
def yN : MethodName := ⟨"java/lang/String", "<init>", "([CIILjava/lang/Void;)V"⟩
abbrev yB : ByteArray := jdk_42_method_149_code
theorem d0 : decode yB 0 = .ok (.aload_n 0, 1) := by decide +kernel
theorem d1 : decode yB 1 = .ok (.invokespecial 1, 3) := by decide +kernel
theorem d4 : decode yB 4 = .ok (.iload_n 3, 1) := by decide +kernel
theorem d5 : decode yB 5 = .ok (.ifCond (.ne) 22, 3) := by decide +kernel
theorem d27 : decode yB 27 = .ok (.getstatic 38, 3) := by decide +kernel
theorem d30 : decode yB 30 = .ok (.ifCond (.eq) 28, 3) := by decide +kernel
theorem d33 : decode yB 33 = .ok (.aload_n 1, 1) := by decide +kernel
theorem d34 : decode yB 34 = .ok (.iload_n 2, 1) := by decide +kernel
theorem d35 : decode yB 35 = .ok (.iload_n 3, 1) := by decide +kernel
theorem d36 : decode yB 36 = .ok (.invokestatic 177, 3) := by decide +kernel
theorem d39 : decode yB 39 = .ok (.astore 5, 2) := by decide +kernel
theorem d41 : decode yB 41 = .ok (.aload_n 0, 1) := by decide +kernel
theorem d42 : decode yB 42 = .ok (.aload 5, 2) := by decide +kernel
theorem d44 : decode yB 44 = .ok (.iload_n 3, 1) := by decide +kernel
theorem d45 : decode yB 45 = .ok (.invokestatic 47, 3) := by decide +kernel
theorem d48 : decode yB 48 = .ok (.putfield 15, 3) := by decide +kernel
theorem d51 : decode yB 51 = .ok (.aload_n 0, 1) := by decide +kernel
theorem d52 : decode yB 52 = .ok (.aload 5, 2) := by decide +kernel
theorem d54 : decode yB 54 = .ok (.putfield 9, 3) := by decide +kernel
theorem d57 : decode yB 57 = .ok (.return_, 1) := by decide +kernel
def site : List Cond := [.fieldLink "java/lang/String" 38 "java/lang/String" "COMPACT_STRINGS" "Z", Cmp3.tab, CodL.tab, .laysFinal "java/lang/String" "java/lang/String" "value" "[B", .fieldLink "java/lang/String" 9 "java/lang/String" "value" "[B", .laysFinal "java/lang/String" "java/lang/String" "coder" "B", .fieldLink "java/lang/String" 15 "java/lang/String" "coder" "B"] ++ objW "java/lang/String" 1 ++ staticW "java/lang/String" 177 Cmp3.yN ++ staticW "java/lang/String" 47 CodL.yN
def tab : Cond := tabOf yN yB 6 none site
def P (a : Addr) (D : Cell) (fV fC : Field) (b : Addr) (A : Cell) (z : Int32) (o len : Nat) (args : Array Value) (s : State) : Prop := args = #[.ref a, .ref b, .int (Int32.ofNat o), .int (Int32.ofNat len), .null] ∧ Blank "java/lang/String" a D s ∧ Found "java/lang/String" "value" "[B" fV s ∧ Found "java/lang/String" "coder" "B" fC s ∧ Ch b A s ∧ StaticIs s "java/lang/String" "COMPACT_STRINGS" "Z" (.int z) ∧ ¬ z = 0 ∧ 0 < len ∧ o + len ≤ A.slots.size ∧ len ≤ 536870912 ∧ ∀ i, i < len → ¬ 255 < cv A (o + i)
def E (a : Addr) (D : Cell) (fV fC : Field) (A : Cell) (o len : Nat) (r : Option Value) (s u : State) : Prop := Got a D fV fC A o len r s u
/-- len > 0, no char of the range above 255: a Latin-1 String of their low bytes -/
theorem law (l : Launch) (a : Addr) (D : Cell) (fV fC : Field) (b : Addr) (A : Cell) (z : Int32) (o len : Nat) : Law l yN 5 4 2 35 yB 6 none site (P a D fV fC b A z o len) (E a D fV fC A o len) [⟨a, fC.slot⟩, ⟨a, fV.slot⟩] 1 len := by
  refine Law.of_walk (plainFor_of_name (by decide +kernel)) (by decide +kernel) (by decide +kernel) (by decide) (fun _ _ h => by rw [h.1]; rfl) (fun _ U U' hal hh h => ⟨h.1, h.2.1.mv hal hh, h.2.2.1.al hal, h.2.2.2.1.al hal, h.2.2.2.2.1.mv hal hh, h.2.2.2.2.2.1.there hal hh, h.2.2.2.2.2.2⟩) (fun r U U' V V' h1 hal h2 h => Got.mv r U U' V V' h1 hal h2 h) ?_
  intro p e s m args below meth c s₁ X0 hexec hbytes hml hret hlk hnm hown hh0 W hP
  obtain ⟨rfl, hB, f1, f2, hA, s1, hz, l0, l1, l2, hp⟩ := hP
  have a31 := hA.1.2.2.2
  have c1 : Steps p.tables e below (s₁.setTop (entryFrame m #[.ref a, .ref b, .int (Int32.ofNat o), .int (Int32.ofNat len), .null] 6)) (s₁.setTop (mkF m 0 #[.val (.ref a), .val (.ref b), .val (.int (Int32.ofNat o)), .val (.int (Int32.ofNat len)), .val .null, .unset] [])) := entry rfl
  have c2 : Steps p.tables e below (s₁.setTop (entryFrame m #[.ref a, .ref b, .int (Int32.ofNat o), .int (Int32.ofNat len), .null] 6)) (s₁.setTop (mkF m 1 #[.val (.ref a), .val (.ref b), .val (.int (Int32.ofNat o)), .val (.int (Int32.ofNat len)), .val .null, .unset] [.ref a])) := c1.trans (by
    refine XS.aloadN X0.here hexec rfl (hb hbytes d0) rfl rfl ?_
    exact Steps.refl _)
  obtain ⟨T3, X3, q3, st3⟩ := X0.oinit hexec hown (wks W (objW "java/lang/String" 1)) (g := (mkF m 1 #[.val (.ref a), .val (.ref b), .val (.int (Int32.ofNat o)), .val (.int (Int32.ofNat len)), .val .null, .unset] [.ref a])) rfl (by rw [hml]; rfl) (rest := []) rfl (hb hbytes d1) (W := 0) (by show 2 * 0 + 0 ≤ _; decide) (Nat.le_of_ble_eq_true rfl) (Nat.le_of_ble_eq_true rfl)
  have hh3 := q3.trans hh0
  have c4 : Steps p.tables e below (s₁.setTop (entryFrame m #[.ref a, .ref b, .int (Int32.ofNat o), .int (Int32.ofNat len), .null] 6)) (T3.setTop (mkF m 27 #[.val (.ref a), .val (.ref b), .val (.int (Int32.ofNat o)), .val (.int (Int32.ofNat len)), .val .null, .unset] [])) := (c2.trans (st3 _ (Steps.refl _))).trans (by
    refine XS.iloadN X3.here hexec rfl (hb hbytes d4) rfl ?_
    refine XS.ifYes X3.here hexec rfl (pc0 := 5) rfl (hb hbytes d5) rfl (i0_ne_t (nz32 (by omega) l0)) (by decide) rfl ?_
    exact Steps.refl _)
  obtain ⟨T5, X5, q5, st5⟩ := X3.sget hexec hown (wk W (.fieldLink "java/lang/String" 38 "java/lang/String" "COMPACT_STRINGS" "Z")) s1 (fun _ _ h => by rw [hh3]; exact h) (g := (mkF m 27 #[.val (.ref a), .val (.ref b), .val (.int (Int32.ofNat o)), .val (.int (Int32.ofNat len)), .val .null, .unset] [])) rfl (hb hbytes d27)
  have hh5 := q5.trans hh3
  have c6 : Steps p.tables e below (s₁.setTop (entryFrame m #[.ref a, .ref b, .int (Int32.ofNat o), .int (Int32.ofNat len), .null] 6)) (T5.setTop (mkF m 30 #[.val (.ref a), .val (.ref b), .val (.int (Int32.ofNat o)), .val (.int (Int32.ofNat len)), .val .null, .unset] [.int z])) := c4.trans (st5 _ (Steps.refl _))
  have c7 : Steps p.tables e below (s₁.setTop (entryFrame m #[.ref a, .ref b, .int (Int32.ofNat o), .int (Int32.ofNat len), .null] 6)) (T5.setTop (mkF m 36 #[.val (.ref a), .val (.ref b), .val (.int (Int32.ofNat o)), .val (.int (Int32.ofNat len)), .val .null, .unset] [.int (Int32.ofNat len), .int (Int32.ofNat o), .ref b])) := c6.trans (by
    refine XS.ifNo X5.here hexec rfl (hb hbytes d30) rfl (i0_eq_f hz) ?_
    refine XS.aloadN X5.here hexec rfl (hb hbytes d33) rfl rfl ?_
    refine XS.iloadN X5.here hexec rfl (hb hbytes d34) rfl ?_
    refine XS.iloadN X5.here hexec rfl (hb hbytes d35) rfl ?_
    exact Steps.refl _)
  obtain ⟨v8, T8, X8, E8, g8⟩ := X5.callS hexec (Cmp3.law l b A o len) hown (wks W (staticW "java/lang/String" 177 Cmp3.yN)) (wk W Cmp3.tab) (W := 0) (Nat.le_of_ble_eq_true rfl) (Nat.le_of_ble_eq_true rfl) (Nat.le_refl _) (by show 0 + len ≤ len; omega) (g := (mkF m 36 #[.val (.ref a), .val (.ref b), .val (.int (Int32.ofNat o)), .val (.int (Int32.ofNat len)), .val .null, .unset] [.int (Int32.ofNat len), .int (Int32.ofNat o), .ref b])) rfl (by rw [hml]; rfl) c7 (argsL := [.ref b, .int (Int32.ofNat o), .int (Int32.ofNat len)]) (rest := []) rfl rfl (by show 2 * 0 + 0 ≤ _; decide) (hb hbytes d36) (⟨rfl, hA.mv X5.warmed.alike hh5, l1, l2, hp⟩)
  obtain ⟨e8, z8⟩ := E8
  obtain ⟨rfl, N, n1, n2, n3, n4, n5, n6⟩ := NewArr.mv _ T5 s _ _ hh5.symm (Vm.Alike.refl _) rfl e8
  rw [hh5] at z8
  have hB1 := hB.keep X8.warmed.alike (n6 _ _ hB.1)
  have hne : s.heap.size ≠ a := (Nat.ne_of_lt (Array.getElem?_eq_some_iff.mp hB.1).1).symm
  have c9 : Steps p.tables e below (s₁.setTop (entryFrame m #[.ref a, .ref b, .int (Int32.ofNat o), .int (Int32.ofNat len), .null] 6)) (T8.setTop (mkF m 39 #[.val (.ref a), .val (.ref b), .val (.int (Int32.ofNat o)), .val (.int (Int32.ofNat len)), .val .null, .unset] [.ref s.heap.size])) := g8
  have c10 : Steps p.tables e below (s₁.setTop (entryFrame m #[.ref a, .ref b, .int (Int32.ofNat o), .int (Int32.ofNat len), .null] 6)) (T8.setTop (mkF m 45 #[.val (.ref a), .val (.ref b), .val (.int (Int32.ofNat o)), .val (.int (Int32.ofNat len)), .val .null, .val (.ref s.heap.size)] [.int (Int32.ofNat N.slots.size), .ref s.heap.size, .ref a])) := by
    have hc : Steps p.tables e below (s₁.setTop (entryFrame m #[.ref a, .ref b, .int (Int32.ofNat o), .int (Int32.ofNat len), .null] 6)) (T8.setTop (mkF m 45 #[.val (.ref a), .val (.ref b), .val (.int (Int32.ofNat o)), .val (.int (Int32.ofNat len)), .val .null, .val (.ref s.heap.size)] [.int (Int32.ofNat len), .ref s.heap.size, .ref a])) := c9.trans (by
      refine XS.astore X8.here hexec rfl (hb hbytes d39) rfl rfl rfl ?_
      refine XS.aloadN X8.here hexec rfl (hb hbytes d41) rfl rfl ?_
      refine XS.aload X8.here hexec rfl (hb hbytes d42) rfl rfl ?_
      refine XS.iloadN X8.here hexec rfl (hb hbytes d44) rfl ?_
      exact Steps.refl _)
    rw [n4]; exact hc
  obtain ⟨v11, T11, X11, E11, g11⟩ := X8.callS hexec (CodL.law l s.heap.size N) hown (wks W (staticW "java/lang/String" 47 CodL.yN)) (wk W CodL.tab) (W := 1) (Nat.le_of_ble_eq_true rfl) (Nat.le_of_ble_eq_true rfl) (Nat.le_refl _) (by show 0 + len + 0 ≤ len; omega) (g := (mkF m 45 #[.val (.ref a), .val (.ref b), .val (.int (Int32.ofNat o)), .val (.int (Int32.ofNat len)), .val .null, .val (.ref s.heap.size)] [.int (Int32.ofNat N.slots.size), .ref s.heap.size, .ref a])) rfl (by rw [hml]; rfl) c10 (argsL := [.ref s.heap.size, .int (Int32.ofNat N.slots.size)]) (rest := [.ref a]) rfl rfl (by show 2 * 0 + (1 + 0) ≤ _; decide) (hb hbytes d45) (⟨rfl, n1⟩)
  obtain ⟨rfl, q11⟩ := E11
  have hB11 := hB1.mv (X8.warmed.alike.symm.trans X11.warmed.alike) q11
  have c12 : Steps p.tables e below (s₁.setTop (entryFrame m #[.ref a, .ref b, .int (Int32.ofNat o), .int (Int32.ofNat len), .null] 6)) (T11.setTop (mkF m 48 #[.val (.ref a), .val (.ref b), .val (.int (Int32.ofNat o)), .val (.int (Int32.ofNat len)), .val .null, .val (.ref s.heap.size)] [.int 0, .ref a])) := g11
  obtain ⟨T13, X13, p13, bl13, sl13, st13⟩ := X11.finit hexec hown (wk W (.fieldLink "java/lang/String" 15 "java/lang/String" "coder" "B")) (Or.inr ⟨_, (wk W (.laysFinal "java/lang/String" "java/lang/String" "coder" "B"))⟩) (Or.inl ⟨rfl, hnm⟩) f2 (Or.inl rfl) hB11 (t := .byte) (by decide +kernel) rfl (g := (mkF m 48 #[.val (.ref a), .val (.ref b), .val (.int (Int32.ofNat o)), .val (.int (Int32.ofNat len)), .val .null, .val (.ref s.heap.size)] [.int 0, .ref a])) rfl (rest := []) rfl (hb hbytes d48)
  have c14 : Steps p.tables e below (s₁.setTop (entryFrame m #[.ref a, .ref b, .int (Int32.ofNat o), .int (Int32.ofNat len), .null] 6)) (T13.setTop (mkF m 54 #[.val (.ref a), .val (.ref b), .val (.int (Int32.ofNat o)), .val (.int (Int32.ofNat len)), .val .null, .val (.ref s.heap.size)] [.ref s.heap.size, .ref a])) := (c12.trans (st13 _ (Steps.refl _))).trans (by
    refine XS.aloadN X13.here hexec rfl (hb hbytes d51) rfl rfl ?_
    refine XS.aload X13.here hexec rfl (hb hbytes d52) rfl rfl ?_
    exact Steps.refl _)
  obtain ⟨T15, X15, p15, bl15, sl15, st15⟩ := X13.finit hexec hown (wk W (.fieldLink "java/lang/String" 9 "java/lang/String" "value" "[B")) (Or.inr ⟨_, (wk W (.laysFinal "java/lang/String" "java/lang/String" "value" "[B"))⟩) (Or.inl ⟨rfl, hnm⟩) f1 (Or.inl rfl) bl13 (t := (.array .byte)) (by decide +kernel) rfl (g := (mkF m 54 #[.val (.ref a), .val (.ref b), .val (.int (Int32.ofNat o)), .val (.int (Int32.ofNat len)), .val .null, .val (.ref s.heap.size)] [.ref s.heap.size, .ref a])) rfl (rest := []) rfl (hb hbytes d54)
  have c16 : Steps p.tables e below (s₁.setTop (entryFrame m #[.ref a, .ref b, .int (Int32.ofNat o), .int (Int32.ofNat len), .null] 6)) (T15.setTop (mkF m 57 #[.val (.ref a), .val (.ref b), .val (.int (Int32.ofNat o)), .val (.int (Int32.ofNat len)), .val .null, .val (.ref s.heap.size)] [])) := c14.trans (st15 _ (Steps.refl _))
  have ap := apart (Or.inr ⟨_, (wk W (.laysFinal "java/lang/String" "java/lang/String" "value" "[B"))⟩) (Or.inr ⟨_, (wk W (.laysFinal "java/lang/String" "java/lang/String" "coder" "B"))⟩) f1 f2 (t₁ := .array .byte) (t₂ := .byte) (by decide +kernel) (by decide +kernel) (by decide)
  have al := X8.warmed.alike.symm.trans X15.warmed.alike
  have n7 : T11.heap[s.heap.size]? = some N := by rw [q11]; exact n1.1
  exact ⟨T15, none, _, _, _, X15, by simp, rfl, by omega, (fun _ => rfl), ⟨rfl, _, N, bl15, ((Same.refl D _).set _ (by simp)).set _ (by simp), sl15, (Cell.slots_setSlot_ne _ ap).trans sl13, n1.keep al (p15.other hne (p13.other hne n7)), n2, by rw [al.findClass]; exact n3, n4, n5, fun y c h1 h2 => p15.other h1 (p13.other h1 (by rw [q11]; exact n6 y c h2)), by rw [p15.2.2, p13.2.2, q11]; exact z8⟩, fun fs hl => c16.trans (X15.returnOut hexec hret (hb hbytes d57) hl)⟩
end New4
namespace New1
def yN : MethodName := ⟨"java/lang/String", "<init>", "([C)V"⟩
abbrev yB : ByteArray := jdk_42_method_3_code
theorem d0 : decode yB 0 = .ok (.aload_n 0, 1) := by decide +kernel
theorem d1 : decode yB 1 = .ok (.aload_n 1, 1) := by decide +kernel
theorem d2 : decode yB 2 = .ok (.iconst 0, 1) := by decide +kernel
theorem d3 : decode yB 3 = .ok (.aload_n 1, 1) := by decide +kernel
theorem d4 : decode yB 4 = .ok (.arraylength, 1) := by decide +kernel
theorem d5 : decode yB 5 = .ok (.aconst_null, 1) := by decide +kernel
theorem d6 : decode yB 6 = .ok (.invokespecial 27, 3) := by decide +kernel
theorem d9 : decode yB 9 = .ok (.return_, 1) := by decide +kernel
def site : List Cond := [New4.tab] ++ initW "java/lang/String" 27 New4.yN
def tab : Cond := tabOf yN yB 2 none site
def P (a : Addr) (D : Cell) (fV fC : Field) (b : Addr) (A : Cell) (z : Int32) (args : Array Value) (s : State) : Prop := args = #[.ref a, .ref b] ∧ Blank "java/lang/String" a D s ∧ Found "java/lang/String" "value" "[B" fV s ∧ Found "java/lang/String" "coder" "B" fC s ∧ Ch b A s ∧ StaticIs s "java/lang/String" "COMPACT_STRINGS" "Z" (.int z) ∧ ¬ z = 0 ∧ 0 < A.slots.size ∧ A.slots.size ≤ 536870912 ∧ ∀ i, i < A.slots.size → ¬ 255 < cv A i
def E (a : Addr) (D : Cell) (fV fC : Field) (A : Cell) (r : Option Value) (s u : State) : Prop := Got a D fV fC A 0 A.slots.size r s u
/-- new String(chars), not empty, no char above 255: a Latin-1 String of their low bytes -/
theorem law (l : Launch) (a : Addr) (D : Cell) (fV fC : Field) (b : Addr) (A : Cell) (z : Int32) : Law l yN 2 1 3 52 yB 2 none site (P a D fV fC b A z) (E a D fV fC A) [⟨a, fC.slot⟩, ⟨a, fV.slot⟩] 1 A.slots.size := by
  refine Law.of_walk (plainFor_of_name (by decide +kernel)) (by decide +kernel) (by decide +kernel) (by decide) (fun _ _ h => by rw [h.1]; rfl) (fun _ U U' hal hh h => ⟨h.1, h.2.1.mv hal hh, h.2.2.1.al hal, h.2.2.2.1.al hal, h.2.2.2.2.1.mv hal hh, h.2.2.2.2.2.1.there hal hh, h.2.2.2.2.2.2⟩) (fun r U U' V V' h1 hal h2 h => Got.mv r U U' V V' h1 hal h2 h) ?_
  intro p e s m args below meth c s₁ X0 hexec hbytes hml hret hlk hnm hown hh0 W hP
  obtain ⟨rfl, hB, f1, f2, hA, s1, hz, l0, l2, hp⟩ := hP
  have c1 : Steps p.tables e below (s₁.setTop (entryFrame m #[.ref a, .ref b] 2)) (s₁.setTop (mkF m 0 #[.val (.ref a), .val (.ref b)] [])) := entry rfl
  have c2 : Steps p.tables e below (s₁.setTop (entryFrame m #[.ref a, .ref b] 2)) (s₁.setTop (mkF m 6 #[.val (.ref a), .val (.ref b)] [.null, .int (Int32.ofNat A.slots.size), .int 0, .ref b, .ref a])) := c1.trans (by
    refine XS.aloadN X0.here hexec rfl (hb hbytes d0) rfl rfl ?_
    refine XS.aloadN X0.here hexec rfl (hb hbytes d1) rfl rfl ?_
    refine iconstV X0.here hexec rfl 0 (hb hbytes d2) (by decide) ?_
    refine XS.aloadN X0.here hexec rfl (hb hbytes d3) rfl rfl ?_
    refine X0.alen hexec (hA.1.mv X0.warmed.alike hh0) rfl rfl (hb hbytes d4) ?_
    refine XS.aconstNull X0.here hexec rfl (hb hbytes d5) ?_
    exact Steps.refl _)
  obtain ⟨v3, T3, X3, E3, g3⟩ := X0.callN hexec (New4.law l a D fV fC b A z 0 A.slots.size) rfl hown (wks W (initW "java/lang/String" 27 New4.yN)) (W New4.tab (by simp only [site, List.mem_cons, List.mem_append, true_or, or_true])) (W := 0) (Nat.le_of_ble_eq_true rfl) (Nat.le_of_ble_eq_true rfl) (Nat.le_refl _) (by show 0 + A.slots.size ≤ A.slots.size; omega) (g := (mkF m 6 #[.val (.ref a), .val (.ref b)] [.null, .int (Int32.ofNat A.slots.size), .int (Int32.ofNat 0), .ref b, .ref a])) rfl (by rw [hml]; rfl) c2 (argsL := [.ref b, .int (Int32.ofNat 0), .int (Int32.ofNat A.slots.size), .null]) (rest := []) rfl rfl (by show 2 * 0 + 0 ≤ _; decide) (hb hbytes d6) (⟨rfl, hB.mv X0.warmed.alike hh0, f1.al X0.warmed.alike, f2.al X0.warmed.alike, hA.mv X0.warmed.alike hh0, s1.there X0.warmed.alike hh0, hz, l0, by omega, l2, fun i hi => by rw [Nat.zero_add]; exact hp i hi⟩)
  have e0 := Got.mv _ s₁ s _ _ hh0.symm (Vm.Alike.refl _) rfl E3
  obtain rfl := e0.1
  have c4 : Steps p.tables e below (s₁.setTop (entryFrame m #[.ref a, .ref b] 2)) (T3.setTop (mkF m 9 #[.val (.ref a), .val (.ref b)] [])) := g3
  exact ⟨T3, none, _, _, _, X3, by simp, rfl, by omega, (fun _ => rfl), e0, fun fs hl => c4.trans (X3.returnOut hexec hret (hb hbytes d9) hl)⟩
theorem pays {l : Launch} {R : Room} {p : Program} {e : Env} {below : List Frame} {s : State} {sargs : Array Value} {len W : Nat} (a : Addr) (D : Cell) (fV fC : Field) (b : Addr) (A : Cell) (z : Int32) (htab : tab.before sargs s = true) (hfr : 4 ≤ R.frames) (hlo : W + 65 ≤ R.locals) :
    Back l R p e below s sargs yN len W (fun A₁ a₁ => A₁.cells + 1 ≤ R.cells ∧ A₁.slots + A.slots.size ≤ R.slots ∧ P a D fV fC b A z a₁ A₁.U) (fun A₁ _ v₁ B₁ => E a D fV fC A v₁ A₁.U B₁.U ∧ B₁.locs = A₁.locs ++ [⟨a, fC.slot⟩, ⟨a, fV.slot⟩] ∧ B₁.cells = A₁.cells + 1 ∧ B₁.slots = A₁.slots + A.slots.size) :=
  (law l a D fV fC b A z).pays htab hfr (by omega)
end New1
/-- the byte, read back as charAt reads it, is the char -/
theorem lo8_mask {x : Int32} (h0 : ¬ x < 0) (h1 : ¬ 255 < x) : lo8 x &&& 255 = x := by
  have t : ∀ k : Fin 256, lo8 (Int32.ofNat k.val) &&& 255 = Int32.ofNat k.val := by decide +kernel
  rw [Int32.lt_iff_toInt_lt] at h0 h1
  have e0 : (0 : Int32).toInt = 0 := rfl
  have e1 : (255 : Int32).toInt = 255 := rfl
  obtain ⟨k, hk⟩ : ∃ k : Nat, x.toInt = k := ⟨x.toInt.toNat, by omega⟩
  have hx : x = Int32.ofNat k := Int32.toInt_inj.mp (by rw [hk, Int32.toInt_ofNat_small (by omega)])
  rw [hx]
  exact t ⟨k, by omega⟩
end StrChars
namespace StrChars.Road
open Jvm Sem ClassFile Op Lib Jvm.Stand Jvm.Free Jvm.Free.XT
open Jvm.Lib.Cold (StaticIs)
abbrev ST : String := "java/lang/String"
/-- every table word that New1's law asks, flat -/
abbrev words : List Jvm.Cond := [.code New1.yN New1.yB 2 none, .initialized ST, .methodLink ST 27 New4.yN, .instanceMethod New4.yN,
  .code New4.yN New4.yB 6 none, .fieldLink ST 38 ST "COMPACT_STRINGS" "Z", .laysFinal ST ST "value" "[B", .fieldLink ST 9 ST "value" "[B", .laysFinal ST ST "coder" "B", .fieldLink ST 15 ST "coder" "B",
  .methodLink ST 1 Lib.objectInit, .instanceMethod Lib.objectInit, .code Lib.objectInit ⟨#[0xb1]⟩ 1 none, .methodLink ST 177 Cmp3.yN, .static Cmp3.yN, .methodLink ST 47 CodL.yN, .static CodL.yN,
  .code Cmp3.yN Cmp3.yB 6 (some (.array .byte)), .initialized U16, .arrayClass .byte, .methodLink U16 115 Cmp5.yN, .static Cmp5.yN, .code Cmp5.yN Cmp5.yB 7 (some .int), .code CodL.yN CodL.yB 2 (some .byte)]
theorem tab_of {a : Array Value} {s : State} (h : ∀ w ∈ words, w.before a s = true) : New1.tab.before a s = true := by
  have h5 : Cmp5.tab.before a s = true := unparts (wk h (.code Cmp5.yN Cmp5.yB 7 (some .int))) (wks h (.initialized Cmp5.yN.cls :: Cmp5.site))
  have hc : CodL.tab.before a s = true := unparts (wk h (.code CodL.yN CodL.yB 2 (some .byte))) (wks h (.initialized CodL.yN.cls :: CodL.site))
  have q5 : ∀ w ∈ Cmp5.tab :: words, w.before a s = true := fun w hw => (List.mem_cons.mp hw).elim (fun e => e ▸ h5) (h w)
  have h3 : Cmp3.tab.before a s = true := unparts (wk q5 (.code Cmp3.yN Cmp3.yB 6 (some (.array .byte)))) (wks q5 (.initialized Cmp3.yN.cls :: Cmp3.site))
  have q3 : ∀ w ∈ Cmp3.tab :: CodL.tab :: words, w.before a s = true := fun w hw => (List.mem_cons.mp hw).elim (fun e => e ▸ h3) fun hw => (List.mem_cons.mp hw).elim (fun e => e ▸ hc) (h w)
  have h4 : New4.tab.before a s = true := unparts (wk q3 (.code New4.yN New4.yB 6 none)) (wks q3 (.initialized New4.yN.cls :: New4.site))
  have q4 : ∀ w ∈ New4.tab :: words, w.before a s = true := fun w hw => (List.mem_cons.mp hw).elim (fun e => e ▸ h4) (h w)
  exact unparts (wk q4 (.code New1.yN New1.yB 2 none)) (wks q4 (.initialized New1.yN.cls :: New1.site))
/-- the words ride from the start Z to the walk's own state -/
theorem moved {Z s : State} {a0 args : Array Value} (hZ : Z.Warmed39 s.vm) (hw : ∀ d ∈ words, d.before a0 Z = true) : ∀ d ∈ words, d.before args s = true := fun d hd => by
  have q := hw d hd
  have t : ∀ d ∈ words, d = .arrayClass .byte ∨ (d.onTables && d.keepsFace) = true := by decide +kernel
  rcases t d hd with rfl | t
  · exact RoadKit.mvA hZ q
  · exact RoadKit.mv hZ q t
/-- WHAT COMES BACK, over the tables of the start Z: h the heap at the call, h' behind it -/
def Q (Z : State) (x : Addr) (A : Cell) (h : Heap) (v : Option Value) (h' : Heap) (L : List Loc) : Prop := v = none ∧ (∀ y ∈ L, y.base = x) ∧ RoadKit.Keep h h' [x] ∧ h'.size = h.size + 1 ∧ RoadKit.Exa Z h' x ST ∧ RoadKit.Fld Z h' x ST "value" "[B" (.ref h.size) ∧ RoadKit.Fld Z h' x ST "coder" "B" (.int 0) ∧
  (∃ V : Cell, RoadKit.Arr Z h' h.size V .byte ∧ V.vm = .none ∧ Z.vm.findClass "[B" = some V.cls ∧ V.slots.size = A.slots.size ∧ ∀ j, j < A.slots.size → V.slots[j]? = some (.int (lo8 (cv A j)))) ∧
  ∀ (O n d : String) (w : Value), RoadKit.Fld Z h x O n d w → RoadKit.slotOf Z O n d ≠ RoadKit.slotOf Z ST "value" "[B" → RoadKit.slotOf Z O n d ≠ RoadKit.slotOf Z ST "coder" "B" → RoadKit.Fld Z h' x O n d w
/-- **new String(chars) AT A CALL, IN THE ROAD'S FORM**: for specialBack behind newO: x the fresh String, b the char[] with the cell A -/
theorem back {p : Program} {l : Launch} {e : Env} {R : Room} {s : State} {args : Array Value} {below : List Frame} {len W : Nat} {Z : State} {a0 : Array Value} {h : Heap} (hZ : Z.Warmed39 s.vm) (hw : ∀ d ∈ words, d.before a0 Z = true) {kI : Nat} (wi : (Jvm.Cond.instantiable ST kI).before a0 Z = true)
    {x b : Addr} {A : Cell} {z : Int32} {v0 c0 : Value} (E : RoadKit.Exa Z h x ST) (V : RoadKit.Fld Z h x ST "value" "[B" v0) (C : RoadKit.Fld Z h x ST "coder" "B" c0) (K : RoadKit.Arr Z h b A .char) (hty : Typed .char A) (S : RoadKit.Sta Z h ST "COMPACT_STRINGS" "Z" (.int z)) (hz : ¬ z = 0)
    (l0 : 0 < A.slots.size) (l2 : A.slots.size ≤ 536870912) (hp : ∀ i, i < A.slots.size → ¬ 255 < cv A i) (hfr : 4 ≤ R.frames) (hlo : W + 65 ≤ R.locals) :
    Back l R p e below s args New1.yN len W (fun P a => a = #[.ref x, .ref b] ∧ P.U.heap = h ∧ P.cells + 1 ≤ R.cells ∧ P.slots + A.slots.size ≤ R.slots)
      (fun P _ v B => ∃ L, Q Z x A h v B.U.heap L ∧ B.locs = P.locs ++ L ∧ B.cells = P.cells + 1 ∧ B.slots = P.slots + A.slots.size) := by
  intro m meth c P g ig mk a X hg hsize hdg hW hn hp'
  obtain ⟨rfl, rfl, r1, r2⟩ := hp'
  have al : Z.vm.Alike P.U.vm := hZ.alike.trans X.warmed.alike
  obtain ⟨D, cfV, kV, iV, fV, hD, gV, stV, knV, obV, asV, slV⟩ := id V
  obtain ⟨D', cfC, kC, iC, fC, hD', gC, stC, -, -, asC, slC⟩ := id C
  cases hD.symm.trans hD'
  obtain ⟨D2, kD, e1, e2, e3, e4, e5⟩ := id E
  cases hD.symm.trans e1
  obtain ⟨c2, k2, i1, i2, i3, -⟩ := Cond.instantiable_spec wi
  cases e2.symm.trans i1
  cases e3.symm.trans i2
  obtain ⟨kU, u1, u2⟩ := al.2.2 _ _ e3
  have hB : Blank ST x D P.U := ⟨hD, ⟨knV, fun q hq => by rw [hq] at obV; cases obV⟩, by rw [al.findClass]; exact e2, kU, u1, by rw [u2]; exact i3, by rw [u2]; exact e5 i3⟩
  have F1 : Found ST "value" "[B" fV P.U := ⟨SBG.found_only al ⟨cfV, kV, iV, gV⟩, stV⟩
  have F2 : Found ST "coder" "B" fC P.U := ⟨SBG.found_only al ⟨cfC, kC, iC, gC⟩, stC⟩
  have hA : Ch b A P.U := ⟨⟨K.1, State.isArrayOf_alike al K.2.1, K.2.2, by omega⟩, hty⟩
  have hS : StaticIs P.U ST "COMPACT_STRINGS" "Z" (.int z) := by
    obtain ⟨cfS, iS, kS, fS, st, cS, t1, t2, t3, t4, t5, t6, t7⟩ := S
    exact StaticIs.there (s := { Z with heap := P.U.heap }) ⟨cfS, iS, kS, fS, st, cS, t1, t2, t3, t4, t5, (fun q => by rw [q] at t6; cases t6), t7⟩ al rfl
  obtain ⟨v, B, X', ⟨⟨hv, E', V', q1, q2, q3, q4, q5, q6, q7, q8, q9, q10, q11⟩, hl, hc, hs⟩, st⟩ := New1.pays x D fV fC b A z (tab_of (moved hZ hw)) hfr hlo m meth c P g ig mk _ X hg hsize hdg hW hn ⟨r1, r2, rfl, hB, F1, F2, hA, hS, hz, l0, l2, hp⟩
  have al' : Z.vm.Alike B.U.vm := hZ.alike.trans X'.warmed.alike
  have hsz : E'.slots.size = D.slots.size := by
    obtain ⟨-, -, -, kB, w1, w2, w3⟩ := q1
    obtain ⟨kB', y1, y2⟩ := al'.2.2 _ _ e3
    rw [q2.2.1] at w1
    cases w1.symm.trans y1
    rw [w3, e5 i3, y2]
  refine ⟨v, B, X', ⟨_, ⟨hv, ?_, ⟨by omega, fun y cy hy hn' => q10 y cy (by simpa using hn') hy, fun y cy hy => ?_⟩, q11, ⟨E', _, q1.1, by rw [q2.2.1]; exact e2, by rw [q2.2.1]; exact e3, by rw [q2.1]; exact obV, fun _ => by rw [hsz]; exact e5 i3⟩,
    ⟨E', cfV, kV, iV, fV, q1.1, gV, stV, by rw [q2.1]; exact knV, by rw [q2.1]; exact obV, by rw [q2.2.1]; exact asV, q3⟩, ⟨E', cfC, kC, iC, fC, q1.1, gC, stC, by rw [q2.1]; exact knV, by rw [q2.1]; exact obV, by rw [q2.2.1]; exact asC, q4⟩,
    ⟨V', ⟨q5.1, State.isArrayOf_alike al'.symm q5.2.1, q5.2.2.1⟩, q6, by rw [← al'.findClass]; exact q7, q8, fun j hj => by have := q9 j hj; rwa [Nat.zero_add] at this⟩, fun O n d w F n1 n2 => ?_⟩, hl, hc, hs⟩, st⟩
  · intro y hy
    simp only [List.mem_cons, List.not_mem_nil, or_false] at hy
    rcases hy with rfl | rfl <;> rfl
  · by_cases q : y = x
    · subst q
      cases hD.symm.trans hy
      exact ⟨E', q1.1, q2.2.1, q2.1, hsz⟩
    · exact ⟨cy, q10 y cy q hy, rfl, rfl, rfl⟩
  · obtain ⟨D3, cf, k, i, f, g1, g2, g3, g4, g5, g6, g7⟩ := F
    cases hD.symm.trans g1
    simp only [RoadKit.slotOf, g2, gV, gC, Option.map_some, Option.getD_some] at n1 n2
    exact ⟨E', cf, k, i, f, q1.1, g2, g3, by rw [q2.1]; exact g4, by rw [q2.1]; exact g5, by rw [q2.2.1]; exact g6, by rw [q2.2.2 f.slot (by simp [n1, n2])]; exact g7⟩
end StrChars.Road
namespace StrChars.Road
open Jvm Sem ClassFile Op Lib Jvm.Stand Jvm.Free Jvm.Free.XT
/-- WHAT COMES BACK, the byte[] as a list of values -/
def QA (Z : State) (x : Addr) (zn : Int32) (cs : List Int32) (h : Heap) (v : Option Value) (h' : Heap) (L : List Loc) : Prop := v = none ∧ (∀ y ∈ L, y.base = x) ∧ RoadKit.Keep h h' [x] ∧ h'.size = h.size + 1 ∧ RoadKit.Exa Z h' x ST ∧ RoadKit.Fld Z h' x ST "value" "[B" (.ref h.size) ∧ RoadKit.Fld Z h' x ST "coder" "B" (.int 0) ∧
  (∃ kb, Z.vm.findClass "[B" = some kb ∧ RoadKit.Arv Z h' h.size kb .byte zn (cs.map fun c => .int (lo8 c)) (.int 0)) ∧
  ∀ (O n d : String) (w : Value), RoadKit.Fld Z h x O n d w → RoadKit.slotOf Z O n d ≠ RoadKit.slotOf Z ST "value" "[B" → RoadKit.slotOf Z O n d ≠ RoadKit.slotOf Z ST "coder" "B" → RoadKit.Fld Z h' x O n d w
/-- **new String(chars) AT A CALL, THE ARRAYS AS LISTS**: the char[] at b holds cs, not empty, no char above 255 -/
theorem backArv {p : Program} {l : Launch} {e : Env} {R : Room} {s : State} {args : Array Value} {below : List Frame} {len W : Nat} {Z : State} {a0 : Array Value} {h : Heap} (hZ : Z.Warmed39 s.vm) (hw : ∀ d ∈ words, d.before a0 Z = true) {kI : Nat} (wi : (Jvm.Cond.instantiable ST kI).before a0 Z = true)
    {x b : Addr} {k : ClassId} {zn z : Int32} {cs : List Int32} {dv v0 c0 : Value} (E : RoadKit.Exa Z h x ST) (V : RoadKit.Fld Z h x ST "value" "[B" v0) (C : RoadKit.Fld Z h x ST "coder" "B" c0) (K : RoadKit.Arv Z h b k .char zn (cs.map Value.int) dv) (S : RoadKit.Sta Z h ST "COMPACT_STRINGS" "Z" (.int z)) (hz : ¬ z = 0)
    (hlen : zn.toNatClampNeg = cs.length) (h0 : 0 < cs.length) (hbig : cs.length ≤ 536870912) (hall : ∀ c ∈ cs, ¬ 255 < c) (hfr : 4 ≤ R.frames) (hlo : W + 65 ≤ R.locals) :
    Back l R p e below s args New1.yN len W (fun P a => a = #[.ref x, .ref b] ∧ P.U.heap = h ∧ P.cells + 1 ≤ R.cells ∧ P.slots + cs.length ≤ R.slots)
      (fun P _ v B => ∃ L, QA Z x zn cs h v B.U.heap L ∧ B.locs = P.locs ++ L ∧ B.cells = P.cells + 1 ∧ B.slots = P.slots + cs.length) := by
  obtain ⟨A, K1, K2, K3, K4, K5, K6⟩ := K
  have e : A.slots.size = cs.length := K3.trans hlen
  have hat : ∀ (i : Nat) (hi : i < cs.length), A.slots[i]? = some (.int cs[i]) := fun i hi => by rw [K5 i (by omega)]; simp [List.getD_eq_getElem?_getD, hi]
  have hcv : ∀ (i : Nat) (hi : i < cs.length), cv A i = cs[i] := fun i hi => by unfold cv; rw [hat i hi]
  have hty : Typed .char A := fun i v hv => by
    have hi : i < A.slots.size := (Array.getElem?_eq_some_iff.mp hv).1
    have q := K5 i hi
    rw [hv] at q
    rw [Option.some.inj q]
    exact K6 i hi
  refine Back.mono (back hZ hw wi E V C K1 hty S hz (by omega) (by omega) (fun i hi => by rw [hcv i (by omega)]; exact hall _ (List.getElem_mem _)) hfr hlo) (fun P a hp => ⟨hp.1, hp.2.1, hp.2.2.1, by rw [e]; exact hp.2.2.2⟩) (fun P a v B hp hq => ?_)
  obtain ⟨L, ⟨q1, q2, q3, q4, q5, q6, q7, ⟨V', v1, v2, v3, v4, v5⟩, q9⟩, hl, hc, hs⟩ := hq
  refine ⟨L, ⟨q1, q2, q3, q4, q5, q6, q7, ⟨V'.cls, v3, V', v1, rfl, by rw [v4, e, hlen], K4, fun i hi => ?_, fun i hi => ?_⟩, q9⟩, hl, hc, by rw [hs, e]⟩
  · have hi' : i < cs.length := by omega
    rw [v5 i (by omega), hcv i hi']; simp [List.getD_eq_getElem?_getD, hi']
  · have hi' : i < cs.length := by omega
    simp only [List.getD_eq_getElem?_getD, List.getElem?_map, List.getElem?_eq_getElem hi', Option.map_some, Option.getD_some]
    exact fits_lo8 _
end StrChars.Road
namespace StrChars.Road
open Jvm Sem ClassFile Op Lib Jvm.Stand Jvm.Free Jvm.Free.XT
/-- WHAT COMES BACK, in the writer's own shape -/
def QV (Z : State) (x : Addr) (N : Int32) (bs : List Int32) (h : Heap) (n0 : Nat) (v : Option Value) (h' : Heap) (L : List Loc) : Prop := v = none ∧ RoadKit.Fr n0 L ∧ RoadKit.Keep h h' [x] ∧ RoadKit.Exa Z h' x ST ∧ RoadKit.Fld Z h' x ST "coder" "B" (.int 0) ∧
  ∃ (t : Addr) (kb : ClassId), n0 ≤ t ∧ h.size ≤ t ∧ ¬ t = x ∧ RoadKit.Fld Z h' x ST "value" "[B" (.ref t) ∧ RoadKit.Arv Z h' t kb .byte N (bs.map Value.int) (.int 0)
/-- **new String(chars) AT A CALL, FOR THE WRITER**: a char[] of n known ints, each 0 to 255 -/
theorem backV {p : Program} {l : Launch} {e : Env} {R : Room} {s : State} {args : Array Value} {below : List Frame} {len W : Nat} {Z : State} {a0 : Array Value} {h : Heap} (hZ : Z.Warmed39 s.vm) (hw : ∀ d ∈ words, d.before a0 Z = true) {kI : Nat} (wi : (Jvm.Cond.instantiable ST kI).before a0 Z = true)
    {x b : Addr} {kC : ClassId} {cs bs : List Int32} {d v0 c0 : Value} {z N : Int32} {n n0 : Nat} (hx0 : n0 ≤ x) (hh0 : n0 ≤ h.size) (E : RoadKit.Exa Z h x ST) (V : RoadKit.Fld Z h x ST "value" "[B" v0) (C : RoadKit.Fld Z h x ST "coder" "B" c0) (K : RoadKit.Arv Z h b kC .char N (cs.map Value.int) d) (S : RoadKit.Sta Z h ST "COMPACT_STRINGS" "Z" (.int z)) (hz : ¬ z = 0)
    (hn : cs.length = n) (hN : N = Int32.ofNat n) (l0 : 0 < n) (l2 : n ≤ 4000) (hp : ∀ c ∈ cs, ¬ c < 0 ∧ ¬ (255 : Int32) < c) (hb : bs = cs.map (fun c => c.toInt8.toInt32)) (hfr : 4 ≤ R.frames) (hlo : W + 65 ≤ R.locals) :
    Back l R p e below s args (⟨"java/lang/String", "<init>", "([C)V"⟩ : MethodName) len W (fun P a => a = #[.ref x, .ref b] ∧ P.U.heap = h ∧ P.cells + 1 ≤ R.cells ∧ P.slots + n ≤ R.slots)
      (fun P _ v B => ∃ L, QV Z x N bs h n0 v B.U.heap L ∧ B.locs = P.locs ++ L ∧ B.cells = P.cells + 1 ∧ B.slots = P.slots + n) := by
  subst hn hN hb
  refine Back.mono (backArv hZ hw wi E V C K S hz (n32 (by omega)) l0 (by omega) (fun c hc => (hp c hc).2) hfr hlo) (fun P a hp => hp) (fun P a v B hp hq => ?_)
  obtain ⟨L, ⟨q1, q2, q3, q4, q5, q6, q7, ⟨kb, v1, v2⟩, q9⟩, hl, hc, hs⟩ := hq
  exact ⟨L, ⟨q1, fun y hy => by rw [q2 y hy]; exact hx0, q3, q5, q7, h.size, kb, hh0, Nat.le_refl _, Nat.ne_of_gt E.lt, q6, by rw [List.map_map]; exact v2⟩, hl, hc, hs⟩
end StrChars.Road
namespace StrChars
open Jvm Sem ClassFile Op Lib Jvm.Stand Jvm.Free.XT Jvm.Free.ALB Jvm.Free.JM Jvm.Free
open Jvm.Lib.Cold (StaticIs)
def hi8 (x : Int32) : Int32 := lo8 (x >>> ((8 : Int32) &&& 31))
/-- what StringUTF16.getChar makes of two bytes -/
def pairCh (u v : Int32) : Int32 := (((u &&& 255) <<< ((0 : Int32) &&& 31)) ||| ((v &&& 255) <<< ((8 : Int32) &&& 31))).toUInt32.toUInt16.toUInt32.toInt32
theorem lo8_and (x : Int32) : (lo8 x &&& 255).toBitVec.toNat = x.toBitVec.toNat % 256 := by
  have h : (lo8 x).toBitVec = (x.toBitVec.signExtend 8).signExtend 32 := by rw [lo8, Int8.toBitVec_toInt32, Int32.toBitVec_toInt8]
  rw [Int32.toBitVec_and, BitVec.toNat_and, h]
  have e : ((x.toBitVec.signExtend 8).signExtend 32).toNat % 256 = x.toBitVec.toNat % 256 := by
    rw [BitVec.toNat_signExtend]
    have hlt := x.toBitVec.isLt
    simp only [BitVec.toNat_setWidth, BitVec.toNat_signExtend]
    split <;> split <;> omega
  rw [← e]
  exact Nat.and_two_pow_sub_one_eq_mod _ 8
theorem pair_says {c : Int32} (h0 : ¬ c < 0) (h1 : ¬ 65535 < c) : pairCh (lo8 c) (hi8 c) = c := by
  rw [Int32.lt_iff_toInt_lt] at h0 h1
  have e0 : (0 : Int32).toInt = 0 := rfl
  have e1 : (65535 : Int32).toInt = 65535 := rfl
  have hc : c.toInt = c.toBitVec.toNat := by
    have := c.toBitVec.isLt
    have e : c.toInt = c.toBitVec.toInt := rfl
    rw [e] at h0 h1
    rw [e]
    rw [BitVec.toInt_eq_toNat_cond] at h0 h1 ⊢
    split at h0 <;> split <;> omega
  have hn : c.toBitVec.toNat < 65536 := by omega
  have a1 := lo8_and c
  have a2 : (hi8 c &&& 255).toBitVec.toNat = c.toBitVec.toNat / 256 := by
    rw [hi8, lo8_and]
    have e : ((8 : Int32) &&& 31) = 8 := by decide
    rw [e, Int32.toBitVec_shiftRight]
    have e2 : ((8 : Int32).toBitVec.smod 32) = 8#32 := by decide
    rw [e2, BitVec.sshiftRight_eq', BitVec.toNat_sshiftRight_of_msb_false (by rw [BitVec.msb_eq_false_iff_two_mul_lt]; omega)]
    show c.toBitVec.toNat >>> 8 % 256 = _
    rw [Nat.shiftRight_eq_div_pow]
    omega
  unfold pairCh
  apply Int32.toBitVec_inj.mp
  apply BitVec.eq_of_toNat_eq
  have f0 : ((0 : Int32) &&& 31) = 0 := by decide
  have f8 : ((8 : Int32) &&& 31) = 8 := by decide
  rw [f0, f8]
  have g : (((lo8 c &&& 255) <<< (0 : Int32)) ||| ((hi8 c &&& 255) <<< (8 : Int32))).toBitVec.toNat = c.toBitVec.toNat := by
    rw [Int32.toBitVec_or, Int32.toBitVec_shiftLeft, Int32.toBitVec_shiftLeft]
    have s0 : ((0 : Int32).toBitVec.smod 32) = 0#32 := by decide
    have s8 : ((8 : Int32).toBitVec.smod 32) = 8#32 := by decide
    rw [s0, s8, BitVec.toNat_or]
    simp only [BitVec.shiftLeft_eq', BitVec.toNat_shiftLeft, a1, a2]
    show (c.toBitVec.toNat % 256) <<< 0 % 2 ^ 32 ||| (c.toBitVec.toNat / 256) <<< 8 % 2 ^ 32 = _
    rw [Nat.shiftLeft_zero, Nat.mod_eq_of_lt (show c.toBitVec.toNat % 256 < 2 ^ 32 by omega), Nat.mod_eq_of_lt (show (c.toBitVec.toNat / 256) <<< 8 < 2 ^ 32 by rw [Nat.shiftLeft_eq]; omega), Nat.or_comm, ← Nat.shiftLeft_add_eq_or_of_lt (by omega), Nat.shiftLeft_eq]
    omega
  show BitVec.toNat (((((lo8 c &&& 255) <<< (0 : Int32)) ||| ((hi8 c &&& 255) <<< (8 : Int32))).toBitVec.setWidth 16).setWidth 32) = _
  rw [BitVec.toNat_setWidth, BitVec.toNat_setWidth, g]
  omega
end StrChars
namespace StrChars
open Jvm Sem ClassFile Op Lib Jvm.Stand Jvm.Free.XT Jvm.Free.ALB Jvm.Free.JM Jvm.Free
open Jvm.Lib.Cold (StaticIs)
/-- the array's cell V codes the n chars f 0 .. f (n - 1) by the coder cd, as the JDK does: coder 1 just where some char is above 255 -/
def Cod (cd : Int32) (n : Nat) (f : Nat → Int32) (V : Cell) : Prop := (cd = 0 ∧ V.slots.size = n ∧ ∀ j, j < n → V.slots[j]? = some (.int (lo8 (f j))) ∧ ¬ 255 < f j) ∨ (cd = 1 ∧ V.slots.size = 2 * n ∧ (∀ j, j < n → V.slots[2 * j]? = some (.int (lo8 (f j))) ∧ V.slots[2 * j + 1]? = some (.int (hi8 (f j)))) ∧ ∃ j, j < n ∧ 255 < f j)
/-- **x is a String of the n chars f 0 .. f (n - 1)**, Latin-1 or UTF-16; its array at t has the cell V -/
def Txt (x t : Addr) (V : Cell) (cd : Int32) (n : Nat) (f : Nat → Int32) (U : State) : Prop := Exact "java/lang/String" x U ∧ Has x "java/lang/String" "value" "[B" (.ref t) U ∧ Has x "java/lang/String" "coder" "B" (.int cd) U ∧ XT.Arr .byte t V U ∧ Cod cd n f V ∧ ∀ j, j < n → ¬ f j < 0 ∧ ¬ 65535 < f j
theorem Txt.mv {x t : Addr} {V : Cell} {cd : Int32} {n : Nat} {f : Nat → Int32} {U U' : State} (h : Txt x t V cd n f U) (hal : U.vm.Alike U'.vm) (hh : U'.heap = U.heap) : Txt x t V cd n f U' := ⟨h.1.mv hal hh, h.2.1.mv hal hh, h.2.2.1.mv hal hh, h.2.2.2.1.mv hal hh, h.2.2.2.2⟩
end StrChars
namespace StrChars.Road
open Jvm Sem ClassFile Op Lib Jvm.Stand Jvm.Free Jvm.Free.XT
open Jvm.Lib.Cold (StaticIs)
theorem consq {a : Array Value} {s : State} {c : Jvm.Cond} {L : List Jvm.Cond} (h0 : c.before a s = true) (h : ∀ w ∈ L, w.before a s = true) : ∀ w ∈ c :: L, w.before a s = true := fun w hw => (List.mem_cons.mp hw).elim (fun e => e ▸ h0) (h w)
/-- the bytes of the chars cs, low before high -/
def wideBytes : List Int32 → List Value
  | [] => []
  | c :: cs => .int (lo8 c) :: .int (hi8 c) :: wideBytes cs
theorem wide_lo (d : Value) : ∀ (cs : List Int32) (j : Nat), j < cs.length → (wideBytes cs).getD (2 * j) d = .int (lo8 (cs.getD j 0))
  | [], j, h => absurd h (Nat.not_lt_zero j)
  | c :: cs, 0, _ => rfl
  | c :: cs, j + 1, h => by
    have q := wide_lo d cs j (by simpa using h)
    rw [show 2 * (j + 1) = 2 * j + 1 + 1 from by omega]
    simpa [wideBytes] using q
theorem wide_hi (d : Value) : ∀ (cs : List Int32) (j : Nat), j < cs.length → (wideBytes cs).getD (2 * j + 1) d = .int (hi8 (cs.getD j 0))
  | [], j, h => absurd h (Nat.not_lt_zero j)
  | c :: cs, 0, _ => rfl
  | c :: cs, j + 1, h => by
    have q := wide_hi d cs j (by simpa using h)
    rw [show 2 * (j + 1) + 1 = 2 * j + 1 + 1 + 1 from by omega]
    simpa [wideBytes] using q
theorem low_at (d : Value) (cs : List Int32) (j : Nat) (h : j < cs.length) : (cs.map fun c => Value.int (lo8 c)).getD j d = .int (lo8 (cs.getD j 0)) := by
  simp [List.getD_eq_getElem?_getD, h]
/-- an array of N2 bytes vs codes the chars cs by the coder cd -/
def CodA (cs : List Int32) (cd N2 : Int32) (vs : List Value) : Prop := (cd = 0 ∧ N2 = Int32.ofNat cs.length ∧ vs = (cs.map fun c => Value.int (lo8 c)) ∧ ∀ c ∈ cs, ¬ 255 < c) ∨ (cd = 1 ∧ N2 = Int32.ofNat (2 * cs.length) ∧ vs = wideBytes cs ∧ ∃ c ∈ cs, 255 < c)
theorem CodA.cod {cs : List Int32} {cd N2 : Int32} {vs : List Value} {V : Cell} (h : CodA cs cd N2 vs) (hn : 2 * cs.length < 2 ^ 31) (hs : V.slots.size = N2.toNatClampNeg) (hv : RoadKit.Has V vs (.int 0)) : Cod cd cs.length (fun j => cs.getD j 0) V := by
  rcases h with ⟨rfl, rfl, rfl, h⟩ | ⟨rfl, rfl, rfl, c, hc, hw⟩
  · rw [n32 (by omega)] at hs
    exact Or.inl ⟨rfl, hs, fun j hj => ⟨by rw [hv j (by omega), low_at _ _ _ hj], by
      have e : cs.getD j 0 = cs[j] := by simp [List.getD_eq_getElem?_getD, hj]
      show ¬ 255 < cs.getD j 0
      rw [e]; exact h _ (List.getElem_mem _)⟩⟩
  · rw [n32 (by omega)] at hs
    obtain ⟨j, hj, rfl⟩ := List.getElem_of_mem hc
    exact Or.inr ⟨rfl, hs, fun j hj => ⟨by rw [hv _ (by omega), wide_lo _ _ _ hj], by rw [hv _ (by omega), wide_hi _ _ _ hj]⟩, j, hj, by
      have e : cs.getD j 0 = cs[j] := by simp [List.getD_eq_getElem?_getD, hj]
      show 255 < cs.getD j 0
      rw [e]; exact hw⟩
/-- an object of exactly java/lang/String, its two fields found: as the laws ask it -/
theorem strObj {Z U : State} {a0 : Array Value} {kI : Nat} (wi : (Jvm.Cond.instantiable ST kI).before a0 Z = true) (al : Z.vm.Alike U.vm) {x : Addr} {v0 c0 : Value} (E : RoadKit.Exa Z U.heap x ST) (V : RoadKit.Fld Z U.heap x ST "value" "[B" v0) (C : RoadKit.Fld Z U.heap x ST "coder" "B" c0) :
    ∃ (D : Cell) (fV fC : Field), Blank ST x D U ∧ Found ST "value" "[B" fV U ∧ Found ST "coder" "B" fC U ∧ D.slots[fV.slot]? = some v0 ∧ D.slots[fC.slot]? = some c0 ∧ RoadKit.slotOf Z ST "value" "[B" = fV.slot ∧ RoadKit.slotOf Z ST "coder" "B" = fC.slot := by
  obtain ⟨D, cfV, kV, iV, fV, hD, gV, stV, knV, obV, asV, slV⟩ := V
  obtain ⟨D', cfC, kC, iC, fC, hD', gC, stC, -, -, asC, slC⟩ := C
  cases hD.symm.trans hD'
  obtain ⟨D2, kD, e1, e2, e3, e4, e5⟩ := E
  cases hD.symm.trans e1
  obtain ⟨c2, k2, i1, i2, i3, -⟩ := Cond.instantiable_spec wi
  cases e2.symm.trans i1
  cases e3.symm.trans i2
  obtain ⟨kU, u1, u2⟩ := al.2.2 _ _ e3
  exact ⟨D, fV, fC, ⟨hD, ⟨knV, fun q hq => by rw [hq] at obV; cases obV⟩, by rw [al.findClass]; exact e2, kU, u1, by rw [u2]; exact i3, by rw [u2]; exact e5 i3⟩, ⟨SBG.found_only al ⟨cfV, kV, iV, gV⟩, stV⟩, ⟨SBG.found_only al ⟨cfC, kC, iC, gC⟩, stC⟩, slV, slC, by simp [RoadKit.slotOf, gV], by simp [RoadKit.slotOf, gC]⟩
theorem sta_is {Z U : State} (al : Z.vm.Alike U.vm) {C n d : String} {v : Value} (S : RoadKit.Sta Z U.heap C n d v) : StaticIs U C n d v := by
  obtain ⟨cfS, iS, kS, fS, st, cS, t1, t2, t3, t4, t5, t6, t7⟩ := S
  exact StaticIs.there (s := { Z with heap := U.heap }) ⟨cfS, iS, kS, fS, st, cS, t1, t2, t3, t4, t5, (fun q => by rw [q] at t6; cases t6), t7⟩ al rfl
end StrChars.Road
namespace StrChars
open Jvm Sem ClassFile Op Lib Jvm.Stand Jvm.Free.XT Jvm.Free.ALB Jvm.Free.JM Jvm.Free
open Jvm.Lib.Cold (StaticIs)
/-- what place i of a byte[]'s cell holds -/
def yv (A : Cell) (i : Nat) : Int32 := match A.slots[i]? with | some (.int x) => x | _ => 0
theorem yv_get {a : Addr} {A : Cell} {U : State} (h : XT.Arr .byte a A U) (ht : Typed .byte A) {i : Nat} (hi : i < A.slots.size) : A.slots[i]? = some (.int (yv A i)) := by
  have e := Array.getElem?_eq_getElem hi
  have f := ht i _ e
  unfold yv; rw [e]
  generalize A.slots[i] = v at f
  cases v <;> simp [fits] at f ⊢
/-- the two arrays are equal, place for place -/
def EqC (A B : Cell) : Prop := A.slots.size = B.slots.size ∧ ∀ i, i < A.slots.size → yv A i = yv B i
/-- a boolean that says whether p -/
def Says01 (q : Prop) (r : Option Value) (s u : State) : Prop := ∃ v : Int32, r = some (.int v) ∧ u.heap = s.heap ∧ ((v = 1 ∧ q) ∨ (v = 0 ∧ ¬ q))
theorem Says01.mv {q : Prop} : ∀ r (U U' V V' : State), U'.heap = U.heap → V.vm.Alike V'.vm → V'.heap = V.heap → Says01 q r U V → Says01 q r U' V' :=
  fun r U U' V V' h1 _ h2 ⟨v, a, b, c⟩ => ⟨v, a, by rw [h1, h2]; exact b, c⟩
namespace LEq
def yN : MethodName := ⟨"java/lang/StringLatin1", "equals", "([B[B)Z"⟩
abbrev yB : ByteArray := jdk_43_method_13_code
theorem d0 : decode yB 0 = .ok (.aload_n 0, 1) := by decide +kernel
theorem d1 : decode yB 1 = .ok (.arraylength, 1) := by decide +kernel
theorem d2 : decode yB 2 = .ok (.aload_n 1, 1) := by decide +kernel
theorem d3 : decode yB 3 = .ok (.arraylength, 1) := by decide +kernel
theorem d4 : decode yB 4 = .ok (.if_icmp (.ne) 30, 3) := by decide +kernel
theorem d7 : decode yB 7 = .ok (.iconst 0, 1) := by decide +kernel
theorem d8 : decode yB 8 = .ok (.istore_n 2, 1) := by decide +kernel
theorem d9 : decode yB 9 = .ok (.iload_n 2, 1) := by decide +kernel
theorem d10 : decode yB 10 = .ok (.aload_n 0, 1) := by decide +kernel
theorem d11 : decode yB 11 = .ok (.arraylength, 1) := by decide +kernel
theorem d12 : decode yB 12 = .ok (.if_icmp (.ge) 20, 3) := by decide +kernel
theorem d15 : decode yB 15 = .ok (.aload_n 0, 1) := by decide +kernel
theorem d16 : decode yB 16 = .ok (.iload_n 2, 1) := by decide +kernel
theorem d17 : decode yB 17 = .ok (.baload, 1) := by decide +kernel
theorem d18 : decode yB 18 = .ok (.aload_n 1, 1) := by decide +kernel
theorem d19 : decode yB 19 = .ok (.iload_n 2, 1) := by decide +kernel
theorem d20 : decode yB 20 = .ok (.baload, 1) := by decide +kernel
theorem d21 : decode yB 21 = .ok (.if_icmp (.eq) 5, 3) := by decide +kernel
theorem d24 : decode yB 24 = .ok (.iconst 0, 1) := by decide +kernel
theorem d25 : decode yB 25 = .ok (.ireturn, 1) := by decide +kernel
theorem d26 : decode yB 26 = .ok (.iinc 2 1, 3) := by decide +kernel
theorem d29 : decode yB 29 = .ok (.goto (-20), 3) := by decide +kernel
theorem d32 : decode yB 32 = .ok (.iconst 1, 1) := by decide +kernel
theorem d33 : decode yB 33 = .ok (.ireturn, 1) := by decide +kernel
theorem d34 : decode yB 34 = .ok (.iconst 0, 1) := by decide +kernel
theorem d35 : decode yB 35 = .ok (.ireturn, 1) := by decide +kernel
def site : List Cond := []
def tab : Cond := tabOf yN yB 3 (some .boolean) site
def P (a : Addr) (A : Cell) (b : Addr) (B : Cell) (args : Array Value) (s : State) : Prop := args = #[.ref a, .ref b] ∧ XT.Arr .byte a A s ∧ Typed .byte A ∧ XT.Arr .byte b B s ∧ Typed .byte B
/-- whether two byte[] are equal, place for place -/
theorem law (l : Launch) (a : Addr) (A : Cell) (b : Addr) (B : Cell) : Law l yN 2 2 0 0 yB 3 (some .boolean) site (P a A b B) (Says01 (EqC A B)) [] 0 0 := by
  refine Law.of_walk (plainFor_of_name (by decide +kernel)) (by decide +kernel) (by decide +kernel) (by decide) (fun _ _ h => by rw [h.1]; rfl) (fun _ U U' hal hh h => ⟨h.1, h.2.1.mv hal hh, h.2.2.1, h.2.2.2.1.mv hal hh, h.2.2.2.2⟩) (fun r U U' V V' h1 hal h2 h => Says01.mv r U U' V V' h1 hal h2 h) ?_
  intro p e s m args below meth c s₁ X0 hexec hbytes hml hret hlk hnm hown hh0 W hP
  obtain ⟨rfl, hA, tA, hB, tB⟩ := hP
  have a31 := hA.2.2.2
  have b31 := hB.2.2.2
  have hA0 := hA.mv X0.warmed.alike hh0
  have hB0 := hB.mv X0.warmed.alike hh0
  have c1 : Steps p.tables e below (s₁.setTop (entryFrame m #[.ref a, .ref b] 3)) (s₁.setTop (mkF m 0 #[.val (.ref a), .val (.ref b), .unset] [])) := entry rfl
  have c2 : Steps p.tables e below (s₁.setTop (entryFrame m #[.ref a, .ref b] 3)) (s₁.setTop (mkF m 4 #[.val (.ref a), .val (.ref b), .unset] [.int (Int32.ofNat B.slots.size), .int (Int32.ofNat A.slots.size)])) := c1.trans (by
    refine XS.aloadN X0.here hexec rfl (hb hbytes d0) rfl rfl ?_
    refine X0.alen hexec hA0 rfl rfl (hb hbytes d1) ?_
    refine XS.aloadN X0.here hexec rfl (hb hbytes d2) rfl rfl ?_
    refine X0.alen hexec hB0 rfl rfl (hb hbytes d3) ?_
    exact Steps.refl _)
  by_cases hs : A.slots.size = B.slots.size
  · have c3 : Steps p.tables e below (s₁.setTop (entryFrame m #[.ref a, .ref b] 3)) (s₁.setTop (mkF m 9 #[.val (.ref a), .val (.ref b), .val (.int 0)] [])) := c2.trans (by
      refine XS.icmpNo X0.here hexec rfl (hb hbytes d4) rfl (ii_ne_f (by rw [hs])) ?_
      refine iconstV X0.here hexec rfl 0 (hb hbytes d7) (by decide) ?_
      refine XS.istoreN X0.here hexec rfl (hb hbytes d8) rfl rfl ?_
      exact Steps.refl _)
    have loop : ∀ (r i : Nat), i + r = A.slots.size → (∀ j, j < i → yv A j = yv B j) → Steps p.tables e below (s₁.setTop (entryFrame m #[.ref a, .ref b] 3)) (s₁.setTop (mkF m 9 #[.val (.ref a), .val (.ref b), .val (.int (Int32.ofNat i))] [])) → ∃ (pc : Nat) (Ls : Array Slot) (v : Int32), (pc = 25 ∨ pc = 33) ∧ ((v = 1 ∧ EqC A B) ∨ (v = 0 ∧ ¬ EqC A B)) ∧ Steps p.tables e below (s₁.setTop (entryFrame m #[.ref a, .ref b] 3)) (s₁.setTop (mkF m pc Ls [.int v])) := by
      intro r
      induction r with
      | zero =>
        intro i hi he cl
        exact ⟨33, _, 1, Or.inr rfl, Or.inl ⟨rfl, hs, fun j hj => he j (by omega)⟩, cl.trans (by
          refine XS.iloadN X0.here hexec rfl (hb hbytes d9) rfl ?_
          refine XS.aloadN X0.here hexec rfl (hb hbytes d10) rfl rfl ?_
          refine X0.alen hexec hA0 rfl rfl (hb hbytes d11) ?_
          refine XS.icmpYes X0.here hexec rfl (pc0 := 12) rfl (hb hbytes d12) rfl (ii_ge_t (nlt32 (by omega) (by omega))) (by decide) rfl ?_
          refine iconstV X0.here hexec rfl 1 (hb hbytes d32) (by decide) ?_
          exact Steps.refl _)⟩
      | succ r ih =>
        intro i hi he cl
        have c4 : Steps p.tables e below (s₁.setTop (entryFrame m #[.ref a, .ref b] 3)) (s₁.setTop (mkF m 21 #[.val (.ref a), .val (.ref b), .val (.int (Int32.ofNat i))] [.int (yv B i), .int (yv A i)])) := cl.trans (by
          refine XS.iloadN X0.here hexec rfl (hb hbytes d9) rfl ?_
          refine XS.aloadN X0.here hexec rfl (hb hbytes d10) rfl rfl ?_
          refine X0.alen hexec hA0 rfl rfl (hb hbytes d11) ?_
          refine XS.icmpNo X0.here hexec rfl (hb hbytes d12) rfl (ii_ge_f (lt32 (by omega) (by omega))) ?_
          refine XS.aloadN X0.here hexec rfl (hb hbytes d15) rfl rfl ?_
          refine XS.iloadN X0.here hexec rfl (hb hbytes d16) rfl ?_
          refine X0.aget hexec hA0 rfl (yv_get hA tA (i := i) (by omega)) rfl rfl (hb hbytes d17) ?_
          refine XS.aloadN X0.here hexec rfl (hb hbytes d18) rfl rfl ?_
          refine XS.iloadN X0.here hexec rfl (hb hbytes d19) rfl ?_
          refine X0.aget hexec hB0 rfl (yv_get hB tB (i := i) (by omega)) rfl rfl (hb hbytes d20) ?_
          exact Steps.refl _)
        by_cases hv : yv A i = yv B i
        · have c5 : Steps p.tables e below (s₁.setTop (entryFrame m #[.ref a, .ref b] 3)) (s₁.setTop (mkF m 9 #[.val (.ref a), .val (.ref b), .val (.int (Int32.ofNat i + 1))] [])) := c4.trans (by
            refine XS.icmpYes X0.here hexec rfl (pc0 := 21) rfl (hb hbytes d21) rfl (ii_eq_t hv) (by decide) rfl ?_
            refine iincV X0.here hexec rfl 1 (hb hbytes d26) (by decide) rfl rfl ?_
            refine XS.goto X0.here hexec rfl (pc0 := 29) rfl (hb hbytes d29) (by decide) rfl ?_
            exact Steps.refl _)
          rw [succ32] at c5
          exact ih (i + 1) (by omega) (fun j hj => by
            by_cases e : j = i
            · rw [e]; exact hv
            · exact he j (by omega)) c5
        · exact ⟨25, _, 0, Or.inl rfl, Or.inr ⟨rfl, fun q => hv (q.2 i (by omega))⟩, c4.trans (by
            refine XS.icmpNo X0.here hexec rfl (hb hbytes d21) rfl (ii_eq_f hv) ?_
            refine iconstV X0.here hexec rfl 0 (hb hbytes d24) (by decide) ?_
            exact Steps.refl _)⟩
    obtain ⟨pc, Ls, v, hpc, hv, cz⟩ := loop A.slots.size 0 (by omega) (fun j hj => absurd hj (Nat.not_lt_zero j)) c3
    have nv : narrow .boolean (.int v) = .int v := by rcases hv with ⟨rfl, -⟩ | ⟨rfl, -⟩ <;> rfl
    rcases hpc with rfl | rfl
    · exact ⟨s₁, some (.int v), _, _, _, X0, rfl, rfl, rfl, (fun h => by cases h), ⟨v, rfl, hh0, hv⟩, fun fs hl => cz.trans (X0.ireturnOut hexec hret nv (Or.inr (Or.inl rfl)) (hb hbytes d25) hl)⟩
    · exact ⟨s₁, some (.int v), _, _, _, X0, rfl, rfl, rfl, (fun h => by cases h), ⟨v, rfl, hh0, hv⟩, fun fs hl => cz.trans (X0.ireturnOut hexec hret nv (Or.inr (Or.inl rfl)) (hb hbytes d33) hl)⟩
  · have c3 : Steps p.tables e below (s₁.setTop (entryFrame m #[.ref a, .ref b] 3)) (s₁.setTop (mkF m 35 #[.val (.ref a), .val (.ref b), .unset] [.int 0])) := c2.trans (by
      refine XS.icmpYes X0.here hexec rfl (pc0 := 4) rfl (hb hbytes d4) rfl (ii_ne_t (ne32 a31 b31 hs)) (by decide) rfl ?_
      refine iconstV X0.here hexec rfl 0 (hb hbytes d34) (by decide) ?_
      exact Steps.refl _)
    exact ⟨s₁, some (.int 0), _, _, _, X0, rfl, rfl, rfl, (fun h => by cases h), ⟨0, rfl, hh0, Or.inr ⟨rfl, fun q => hs q.1⟩⟩, fun fs hl => c3.trans (X0.ireturnOut hexec hret rfl (Or.inr (Or.inl rfl)) (hb hbytes d35) hl)⟩
end LEq
theorem Cod.ty {cd : Int32} {n : Nat} {f : Nat → Int32} {V : Cell} (h : Cod cd n f V) : Typed .byte V := fun i v hv => by
  have hi : i < V.slots.size := (Array.getElem?_eq_some_iff.mp hv).1
  rcases h with ⟨-, k1, k2⟩ | ⟨-, k1, k2, -⟩
  · rw [(k2 i (by omega)).1] at hv; cases hv; exact fits_lo8 _
  · rcases Nat.mod_two_eq_zero_or_one i with e | e
    · obtain ⟨j, rfl⟩ : ∃ j, i = 2 * j := ⟨i / 2, by omega⟩
      rw [(k2 j (by omega)).1] at hv; cases hv; exact fits_lo8 _
    · obtain ⟨j, rfl⟩ : ∃ j, i = 2 * j + 1 := ⟨i / 2, by omega⟩
      rw [(k2 j (by omega)).2] at hv; cases hv; exact fits_lo8 _
/-- the same text -/
def SameT (n : Nat) (f : Nat → Int32) (k : Nat) (g : Nat → Int32) : Prop := n = k ∧ ∀ j, j < n → f j = g j
theorem lo8_inj {x y : Int32} (h0 : ¬ x < 0) (h1 : ¬ 255 < x) (k0 : ¬ y < 0) (k1 : ¬ 255 < y) (h : lo8 x = lo8 y) : x = y := by
  rw [← lo8_mask h0 h1, ← lo8_mask k0 k1, h]
/-- arrays coded by one coder are equal just where the texts are -/
theorem Cod.eqv {cd : Int32} {n k : Nat} {f g : Nat → Int32} {V V' : Cell} (h : Cod cd n f V) (h' : Cod cd k g V') (hf : ∀ j, j < n → ¬ f j < 0 ∧ ¬ 65535 < f j) (hg : ∀ j, j < k → ¬ g j < 0 ∧ ¬ 65535 < g j) : EqC V V' ↔ SameT n f k g := by
  have yvv : ∀ {W : Cell} {i : Nat} {x : Int32}, W.slots[i]? = some (.int x) → yv W i = x := fun q => by unfold yv; rw [q]
  rcases h with ⟨rfl, k1, k2⟩ | ⟨rfl, k1, k2, -⟩
  · rcases h' with ⟨-, m1, m2⟩ | ⟨e, -⟩
    · constructor
      · rintro ⟨e1, e2⟩
        refine ⟨by omega, fun j hj => ?_⟩
        have q := e2 j (by omega)
        rw [yvv (k2 j hj).1, yvv (m2 j (by omega)).1] at q
        exact lo8_inj (hf j hj).1 (k2 j hj).2 (hg j (by omega)).1 (m2 j (by omega)).2 q
      · rintro ⟨rfl, e2⟩
        refine ⟨by omega, fun j hj => ?_⟩
        rw [yvv (k2 j (by omega)).1, yvv (m2 j (by omega)).1, e2 j (by omega)]
    · exact absurd e (by decide)
  · rcases h' with ⟨e, -⟩ | ⟨-, m1, m2, -⟩
    · exact absurd e (by decide)
    · constructor
      · rintro ⟨e1, e2⟩
        refine ⟨by omega, fun j hj => ?_⟩
        have q1 := e2 (2 * j) (by omega)
        have q2 := e2 (2 * j + 1) (by omega)
        rw [yvv (k2 j hj).1, yvv (m2 j (by omega)).1] at q1
        rw [yvv (k2 j hj).2, yvv (m2 j (by omega)).2] at q2
        rw [← pair_says (hf j hj).1 (hf j hj).2, ← pair_says (hg j (by omega)).1 (hg j (by omega)).2, q1, q2]
      · rintro ⟨rfl, e2⟩
        refine ⟨by omega, fun i hi => ?_⟩
        rcases Nat.mod_two_eq_zero_or_one i with e | e
        · obtain ⟨j, rfl⟩ : ∃ j, i = 2 * j := ⟨i / 2, by omega⟩
          rw [yvv (k2 j (by omega)).1, yvv (m2 j (by omega)).1, e2 j (by omega)]
        · obtain ⟨j, rfl⟩ : ∃ j, i = 2 * j + 1 := ⟨i / 2, by omega⟩
          rw [yvv (k2 j (by omega)).2, yvv (m2 j (by omega)).2, e2 j (by omega)]
/-- two codings differ: so do the texts -/
theorem Cod.dif {cd cd' : Int32} {n k : Nat} {f g : Nat → Int32} {V V' : Cell} (h : Cod cd n f V) (h' : Cod cd' k g V') (hne : ¬ cd = cd') : ¬ SameT n f k g := by
  rintro ⟨rfl, e⟩
  rcases h with ⟨rfl, -, k2⟩ | ⟨rfl, -, -, j, hj, hw⟩
  · rcases h' with ⟨rfl, -⟩ | ⟨-, -, -, j, hj, hw⟩
    · exact hne rfl
    · exact (k2 j hj).2 (by rw [e j hj]; exact hw)
  · rcases h' with ⟨-, -, m2⟩ | ⟨rfl, -⟩
    · exact (m2 j hj).2 (by rw [← e j hj]; exact hw)
    · exact hne rfl
/-- an object of exactly C is an instance of C -/
theorem cinst {p : Program} {l : Launch} {e : Env} {R : Room} {s : State} {m : MethodId} {args : Array Value} {below : List Frame} {meth : Method} {c : Code} {T : State} {locs : List Loc} {cells slots : Nat} (X : Stand p l e R s m args below meth c T locs cells slots) (hexec : p.tables.exec = Jvm.exec) {own C : String} {index : Nat} (hown : s.vm.findClass own = some m.cls) (hlink : (Cond.classLink own index C).before args s = true) {a : Addr} (hE : Exact C a T)
    {g : JFrame} (hg : g.method = m) {rest : List Value} (hstack : g.stack = .ref a :: rest) (hdg : decode c.code g.pc = .ok (.instanceof index, 3)) :
    ∃ T', Stand p l e R s m args below meth c T' locs cells slots ∧ T'.heap = T.heap ∧ ∀ target, Steps p.tables e below (T'.setTop { g with pc := g.pc + 3, stack := .int 1 :: rest }) target → Steps p.tables e below (T.setTop g) target := by
  obtain ⟨cB, h1, D, h2, h3, h4⟩ := hE
  have h1' : s.vm.findClass C = some cB := by rw [← X.warmed.alike.findClass]; exact h1
  obtain ⟨vm', X', st⟩ := X.instanceofYes hexec hown hlink h2 h4 h1' (by rw [h3]; exact Jvm.Free.SB.assignable_self _ _) hg hstack hdg
  exact ⟨_, X', rfl, st⟩
theorem cself {p : Program} {l : Launch} {e : Env} {R : Room} {s : State} {m : MethodId} {args : Array Value} {below : List Frame} {meth : Method} {c : Code} {T : State} {locs : List Loc} {cells slots : Nat} (X : Stand p l e R s m args below meth c T locs cells slots) (hexec : p.tables.exec = Jvm.exec) {own C : String} {index : Nat} (hown : s.vm.findClass own = some m.cls) (hlink : (Cond.classLink own index C).before args s = true) {a : Addr} (hE : Exact C a T)
    {g : JFrame} (hg : g.method = m) {rest : List Value} (hstack : g.stack = .ref a :: rest) (hdg : decode c.code g.pc = .ok (.checkcast index, 3)) :
    ∃ T', Stand p l e R s m args below meth c T' locs cells slots ∧ T'.heap = T.heap ∧ ∀ target, Steps p.tables e below (T'.setTop { g with pc := g.pc + 3, stack := .ref a :: rest }) target → Steps p.tables e below (T.setTop g) target := by
  obtain ⟨cB, h1, D, h2, h3, h4⟩ := hE
  have h1' : s.vm.findClass C = some cB := by rw [← X.warmed.alike.findClass]; exact h1
  obtain ⟨vm', X', st⟩ := X.checkcastYes hexec hown hlink h2 h4 h1' (by rw [h3]; exact Jvm.Free.SB.assignable_self _ _) hg hstack hdg
  exact ⟨_, X', rfl, fun t h => st t (by rw [← hstack] at h; exact h)⟩
namespace SEq
def yN : MethodName := ⟨"java/lang/String", "equals", "(Ljava/lang/Object;)Z"⟩
abbrev yB : ByteArray := jdk_42_method_66_code
theorem d0 : decode yB 0 = .ok (.aload_n 0, 1) := by decide +kernel
theorem d1 : decode yB 1 = .ok (.aload_n 1, 1) := by decide +kernel
theorem d2 : decode yB 2 = .ok (.if_acmp (.ne) 5, 3) := by decide +kernel
theorem d5 : decode yB 5 = .ok (.iconst 1, 1) := by decide +kernel
theorem d6 : decode yB 6 = .ok (.ireturn, 1) := by decide +kernel
theorem d7 : decode yB 7 = .ok (.aload_n 1, 1) := by decide +kernel
theorem d8 : decode yB 8 = .ok (.instanceof 10, 3) := by decide +kernel
theorem d11 : decode yB 11 = .ok (.ifCond (.eq) 43, 3) := by decide +kernel
theorem d14 : decode yB 14 = .ok (.aload_n 1, 1) := by decide +kernel
theorem d15 : decode yB 15 = .ok (.checkcast 10, 3) := by decide +kernel
theorem d18 : decode yB 18 = .ok (.astore_n 2, 1) := by decide +kernel
theorem d19 : decode yB 19 = .ok (.getstatic 38, 3) := by decide +kernel
theorem d22 : decode yB 22 = .ok (.ifCond (.eq) 14, 3) := by decide +kernel
theorem d25 : decode yB 25 = .ok (.aload_n 0, 1) := by decide +kernel
theorem d26 : decode yB 26 = .ok (.getfield 15, 3) := by decide +kernel
theorem d29 : decode yB 29 = .ok (.aload_n 2, 1) := by decide +kernel
theorem d30 : decode yB 30 = .ok (.getfield 15, 3) := by decide +kernel
theorem d33 : decode yB 33 = .ok (.if_icmp (.ne) 21, 3) := by decide +kernel
theorem d36 : decode yB 36 = .ok (.aload_n 0, 1) := by decide +kernel
theorem d37 : decode yB 37 = .ok (.getfield 9, 3) := by decide +kernel
theorem d40 : decode yB 40 = .ok (.aload_n 2, 1) := by decide +kernel
theorem d41 : decode yB 41 = .ok (.getfield 9, 3) := by decide +kernel
theorem d44 : decode yB 44 = .ok (.invokestatic 541, 3) := by decide +kernel
theorem d47 : decode yB 47 = .ok (.ifCond (.eq) 7, 3) := by decide +kernel
theorem d50 : decode yB 50 = .ok (.iconst 1, 1) := by decide +kernel
theorem d51 : decode yB 51 = .ok (.goto 4, 3) := by decide +kernel
theorem d54 : decode yB 54 = .ok (.iconst 0, 1) := by decide +kernel
theorem d55 : decode yB 55 = .ok (.ireturn, 1) := by decide +kernel
def site : List Cond := [.classLink "java/lang/String" 10 "java/lang/String", .fieldLink "java/lang/String" 38 "java/lang/String" "COMPACT_STRINGS" "Z", .fieldLink "java/lang/String" 15 "java/lang/String" "coder" "B", .fieldLink "java/lang/String" 9 "java/lang/String" "value" "[B", LEq.tab] ++ staticW "java/lang/String" 541 LEq.yN
def tab : Cond := tabOf yN yB 3 (some .boolean) site
def P (x t : Addr) (V : Cell) (cd : Int32) (n : Nat) (f : Nat → Int32) (y t' : Addr) (V' : Cell) (cd' : Int32) (k : Nat) (g : Nat → Int32) (z : Int32) (args : Array Value) (s : State) : Prop := args = #[.ref x, .ref y] ∧ Txt x t V cd n f s ∧ Txt y t' V' cd' k g s ∧ StaticIs s "java/lang/String" "COMPACT_STRINGS" "Z" (.int z) ∧ ¬ z = 0
/-- equals(Object) of two Strings: whether the texts are the same -/
theorem law (l : Launch) (x t : Addr) (V : Cell) (cd : Int32) (n : Nat) (f : Nat → Int32) (y t' : Addr) (V' : Cell) (cd' : Int32) (k : Nat) (g : Nat → Int32) (z : Int32) : Law l yN 2 1 1 14 yB 3 (some .boolean) site (P x t V cd n f y t' V' cd' k g z) (Says01 (SameT n f k g)) [] 0 0 := by
  refine Law.of_walk (plainFor_of_name (by decide +kernel)) (by decide +kernel) (by decide +kernel) (by decide) (fun _ _ h => by rw [h.1]; rfl) (fun _ U U' hal hh h => ⟨h.1, h.2.1.mv hal hh, h.2.2.1.mv hal hh, h.2.2.2.1.there hal hh, h.2.2.2.2⟩) (fun r U U' V V' h1 hal h2 h => Says01.mv r U U' V V' h1 hal h2 h) ?_
  intro p e s m args below meth c s₁ X0 hexec hbytes hml hret hlk hnm hown hh0 W hP
  obtain ⟨rfl, hx, hy, s1, hz⟩ := hP
  have c1 : Steps p.tables e below (s₁.setTop (entryFrame m #[.ref x, .ref y] 3)) (s₁.setTop (mkF m 2 #[.val (.ref x), .val (.ref y), .unset] [.ref y, .ref x])) := Steps.trans (entry rfl) (by
    show Steps p.tables e below (s₁.setTop (mkF m 0 #[.val (.ref x), .val (.ref y), .unset] [])) _
    refine XS.aloadN X0.here hexec rfl (hb hbytes d0) rfl rfl ?_
    refine XS.aloadN X0.here hexec rfl (hb hbytes d1) rfl rfl ?_
    exact Steps.refl _)
  by_cases hxy : x = y
  · have c2 : Steps p.tables e below (s₁.setTop (entryFrame m #[.ref x, .ref y] 3)) (s₁.setTop (mkF m 6 #[.val (.ref x), .val (.ref y), .unset] [.int 1])) := c1.trans (by
      refine acmpNo X0.here hexec rfl (hb hbytes d2) rfl rfl rfl (by simp [acmp, hxy]) ?_
      refine iconstV X0.here hexec rfl 1 (hb hbytes d5) (by decide) ?_
      exact Steps.refl _)
    subst hxy
    have ec : cd = cd' := by
      obtain ⟨D, fd, a1, a2, a3⟩ := hx.2.2.1
      obtain ⟨D', fd', b1, b2, b3⟩ := hy.2.2.1
      cases a1.symm.trans b1
      obtain ⟨q1, q2, q3, q4⟩ := a2.1
      obtain ⟨r1, r2, r3, r4⟩ := b2.1
      cases q4.symm.trans r4
      cases a3.symm.trans b3; rfl
    have et : t = t' := by
      obtain ⟨D, fd, a1, a2, a3⟩ := hx.2.1
      obtain ⟨D', fd', b1, b2, b3⟩ := hy.2.1
      cases a1.symm.trans b1
      obtain ⟨q1, q2, q3, q4⟩ := a2.1
      obtain ⟨r1, r2, r3, r4⟩ := b2.1
      cases q4.symm.trans r4
      cases a3.symm.trans b3; rfl
    subst ec et
    have ev : V = V' := by cases hx.2.2.2.1.1.symm.trans hy.2.2.2.1.1; rfl
    subst ev
    have hs : SameT n f k g := (Cod.eqv hx.2.2.2.2.1 hy.2.2.2.2.1 hx.2.2.2.2.2 hy.2.2.2.2.2).mp ⟨rfl, fun _ _ => rfl⟩
    exact ⟨s₁, some (.int 1), _, _, _, X0, rfl, rfl, rfl, (fun h => by cases h), ⟨1, rfl, hh0, Or.inl ⟨rfl, hs⟩⟩, fun fs hl => c2.trans (X0.ireturnOut hexec hret rfl (Or.inr (Or.inl rfl)) (hb hbytes d6) hl)⟩
  · have c2 : Steps p.tables e below (s₁.setTop (entryFrame m #[.ref x, .ref y] 3)) (s₁.setTop (mkF m 8 #[.val (.ref x), .val (.ref y), .unset] [.ref y])) := c1.trans (by
      refine acmpYes X0.here hexec rfl (pc0 := 2) rfl (hb hbytes d2) rfl rfl rfl (by simp [acmp, hxy]) (by decide) rfl ?_
      refine XS.aloadN X0.here hexec rfl (hb hbytes d7) rfl rfl ?_
      exact Steps.refl _)
    obtain ⟨T3, X3, q3, st3⟩ := cinst X0 hexec hown (wk W (.classLink "java/lang/String" 10 "java/lang/String")) (hy.mv X0.warmed.alike hh0).1 (g := (mkF m 8 #[.val (.ref x), .val (.ref y), .unset] [.ref y])) rfl (rest := []) rfl (hb hbytes d8)
    have hh3 := q3.trans hh0
    have c4 : Steps p.tables e below (s₁.setTop (entryFrame m #[.ref x, .ref y] 3)) (T3.setTop (mkF m 15 #[.val (.ref x), .val (.ref y), .unset] [.ref y])) := (c2.trans (st3 _ (Steps.refl _))).trans (by
      refine XS.ifNo X3.here hexec rfl (hb hbytes d11) rfl (i0_eq_f (by decide)) ?_
      refine XS.aloadN X3.here hexec rfl (hb hbytes d14) rfl rfl ?_
      exact Steps.refl _)
    obtain ⟨T5, X5, q5, st5⟩ := cself X3 hexec hown (wk W (.classLink "java/lang/String" 10 "java/lang/String")) (hy.mv X3.warmed.alike hh3).1 (g := (mkF m 15 #[.val (.ref x), .val (.ref y), .unset] [.ref y])) rfl (rest := []) rfl (hb hbytes d15)
    have hh5 := q5.trans hh3
    have c6 : Steps p.tables e below (s₁.setTop (entryFrame m #[.ref x, .ref y] 3)) (T5.setTop (mkF m 19 #[.val (.ref x), .val (.ref y), .val (.ref y)] [])) := (c4.trans (st5 _ (Steps.refl _))).trans (by
      refine XS.astoreN X5.here hexec rfl (hb hbytes d18) rfl rfl rfl ?_
      exact Steps.refl _)
    obtain ⟨T7, X7, q7, st7⟩ := X5.sget hexec hown (wk W (.fieldLink "java/lang/String" 38 "java/lang/String" "COMPACT_STRINGS" "Z")) s1 (fun _ _ h => by rw [hh5]; exact h) (g := (mkF m 19 #[.val (.ref x), .val (.ref y), .val (.ref y)] [])) rfl (hb hbytes d19)
    have hh7 := q7.trans hh5
    have c8 : Steps p.tables e below (s₁.setTop (entryFrame m #[.ref x, .ref y] 3)) (T7.setTop (mkF m 26 #[.val (.ref x), .val (.ref y), .val (.ref y)] [.ref x])) := (c6.trans (st7 _ (Steps.refl _))).trans (by
      refine XS.ifNo X7.here hexec rfl (hb hbytes d22) rfl (i0_eq_f hz) ?_
      refine XS.aloadN X7.here hexec rfl (hb hbytes d25) rfl rfl ?_
      exact Steps.refl _)
    obtain ⟨T9, X9, q9, st9⟩ := X7.hget hexec hown (wk W (.fieldLink "java/lang/String" 15 "java/lang/String" "coder" "B")) (hx.mv X7.warmed.alike hh7).2.2.1 (g := (mkF m 26 #[.val (.ref x), .val (.ref y), .val (.ref y)] [.ref x])) rfl (rest := []) rfl (hb hbytes d26)
    have hh9 := q9.trans hh7
    have c10 : Steps p.tables e below (s₁.setTop (entryFrame m #[.ref x, .ref y] 3)) (T9.setTop (mkF m 30 #[.val (.ref x), .val (.ref y), .val (.ref y)] [.ref y, .int cd])) := (c8.trans (st9 _ (Steps.refl _))).trans (by
      refine XS.aloadN X9.here hexec rfl (hb hbytes d29) rfl rfl ?_
      exact Steps.refl _)
    obtain ⟨T11, X11, q11, st11⟩ := X9.hget hexec hown (wk W (.fieldLink "java/lang/String" 15 "java/lang/String" "coder" "B")) (hy.mv X9.warmed.alike hh9).2.2.1 (g := (mkF m 30 #[.val (.ref x), .val (.ref y), .val (.ref y)] [.ref y, .int cd])) rfl (rest := [.int cd]) rfl (hb hbytes d30)
    have hh11 := q11.trans hh9
    have c12 : Steps p.tables e below (s₁.setTop (entryFrame m #[.ref x, .ref y] 3)) (T11.setTop (mkF m 33 #[.val (.ref x), .val (.ref y), .val (.ref y)] [.int cd', .int cd])) := c10.trans (st11 _ (Steps.refl _))
    by_cases hcd : cd = cd'
    · subst hcd
      have c13 : Steps p.tables e below (s₁.setTop (entryFrame m #[.ref x, .ref y] 3)) (T11.setTop (mkF m 37 #[.val (.ref x), .val (.ref y), .val (.ref y)] [.ref x])) := c12.trans (by
        refine XS.icmpNo X11.here hexec rfl (hb hbytes d33) rfl (ii_ne_f rfl) ?_
        refine XS.aloadN X11.here hexec rfl (hb hbytes d36) rfl rfl ?_
        exact Steps.refl _)
      obtain ⟨T14, X14, q14, st14⟩ := X11.hget hexec hown (wk W (.fieldLink "java/lang/String" 9 "java/lang/String" "value" "[B")) (hx.mv X11.warmed.alike hh11).2.1 (g := (mkF m 37 #[.val (.ref x), .val (.ref y), .val (.ref y)] [.ref x])) rfl (rest := []) rfl (hb hbytes d37)
      have hh14 := q14.trans hh11
      have c15 : Steps p.tables e below (s₁.setTop (entryFrame m #[.ref x, .ref y] 3)) (T14.setTop (mkF m 41 #[.val (.ref x), .val (.ref y), .val (.ref y)] [.ref y, .ref t])) := (c13.trans (st14 _ (Steps.refl _))).trans (by
        refine XS.aloadN X14.here hexec rfl (hb hbytes d40) rfl rfl ?_
        exact Steps.refl _)
      obtain ⟨T16, X16, q16, st16⟩ := X14.hget hexec hown (wk W (.fieldLink "java/lang/String" 9 "java/lang/String" "value" "[B")) (hy.mv X14.warmed.alike hh14).2.1 (g := (mkF m 41 #[.val (.ref x), .val (.ref y), .val (.ref y)] [.ref y, .ref t])) rfl (rest := [.ref t]) rfl (hb hbytes d41)
      have hh16 := q16.trans hh14
      have c17 : Steps p.tables e below (s₁.setTop (entryFrame m #[.ref x, .ref y] 3)) (T16.setTop (mkF m 44 #[.val (.ref x), .val (.ref y), .val (.ref y)] [.ref t', .ref t])) := c15.trans (st16 _ (Steps.refl _))
      obtain ⟨v18, T18, X18, E18, g18⟩ := X16.callS hexec (LEq.law l t V t' V') hown (wks W (staticW "java/lang/String" 541 LEq.yN)) (wk W LEq.tab) (W := 0) (Nat.le_of_ble_eq_true rfl) (Nat.le_of_ble_eq_true rfl) (Nat.le_refl _) (Nat.le_refl _) (g := (mkF m 44 #[.val (.ref x), .val (.ref y), .val (.ref y)] [.ref t', .ref t])) rfl (by rw [hml]; rfl) c17 (argsL := [.ref t, .ref t']) (rest := []) rfl rfl (by show 2 * 0 + 0 ≤ _; decide) (hb hbytes d44) (⟨rfl, hx.2.2.2.1.mv X16.warmed.alike hh16, hx.2.2.2.2.1.ty, hy.2.2.2.1.mv X16.warmed.alike hh16, hy.2.2.2.2.1.ty⟩)
      obtain ⟨v, rfl, q18, hv⟩ := E18
      have iff := Cod.eqv hx.2.2.2.2.1 hy.2.2.2.2.1 hx.2.2.2.2.2 hy.2.2.2.2.2
      rcases hv with ⟨rfl, he⟩ | ⟨rfl, he⟩
      · have c19 : Steps p.tables e below (s₁.setTop (entryFrame m #[.ref x, .ref y] 3)) (T18.setTop (mkF m 55 #[.val (.ref x), .val (.ref y), .val (.ref y)] [.int 1])) := Steps.trans g18 (by
          refine XS.ifNo X18.here hexec rfl (hb hbytes d47) rfl (i0_eq_f (by decide)) ?_
          refine iconstV X18.here hexec rfl 1 (hb hbytes d50) (by decide) ?_
          refine XS.goto X18.here hexec rfl (pc0 := 51) rfl (hb hbytes d51) (by decide) rfl ?_
          exact Steps.refl _)
        exact ⟨T18, some (.int 1), _, _, _, X18, rfl, rfl, rfl, (fun h => by cases h), ⟨1, rfl, q18.trans hh16, Or.inl ⟨rfl, iff.mp he⟩⟩, fun fs hl => c19.trans (X18.ireturnOut hexec hret rfl (Or.inr (Or.inl rfl)) (hb hbytes d55) hl)⟩
      · have c19 : Steps p.tables e below (s₁.setTop (entryFrame m #[.ref x, .ref y] 3)) (T18.setTop (mkF m 55 #[.val (.ref x), .val (.ref y), .val (.ref y)] [.int 0])) := Steps.trans g18 (by
          refine XS.ifYes X18.here hexec rfl (pc0 := 47) rfl (hb hbytes d47) rfl (i0_eq_t rfl) (by decide) rfl ?_
          refine iconstV X18.here hexec rfl 0 (hb hbytes d54) (by decide) ?_
          exact Steps.refl _)
        exact ⟨T18, some (.int 0), _, _, _, X18, rfl, rfl, rfl, (fun h => by cases h), ⟨0, rfl, q18.trans hh16, Or.inr ⟨rfl, fun q => he (iff.mpr q)⟩⟩, fun fs hl => c19.trans (X18.ireturnOut hexec hret rfl (Or.inr (Or.inl rfl)) (hb hbytes d55) hl)⟩
    · have c13 : Steps p.tables e below (s₁.setTop (entryFrame m #[.ref x, .ref y] 3)) (T11.setTop (mkF m 55 #[.val (.ref x), .val (.ref y), .val (.ref y)] [.int 0])) := c12.trans (by
        refine XS.icmpYes X11.here hexec rfl (pc0 := 33) rfl (hb hbytes d33) rfl (ii_ne_t hcd) (by decide) rfl ?_
        refine iconstV X11.here hexec rfl 0 (hb hbytes d54) (by decide) ?_
        exact Steps.refl _)
      exact ⟨T11, some (.int 0), _, _, _, X11, rfl, rfl, rfl, (fun h => by cases h), ⟨0, rfl, hh11, Or.inr ⟨rfl, Cod.dif hx.2.2.2.2.1 hy.2.2.2.2.1 hcd⟩⟩, fun fs hl => c13.trans (X11.ireturnOut hexec hret rfl (Or.inr (Or.inl rfl)) (hb hbytes d55) hl)⟩
theorem pays {l : Launch} {R : Room} {p : Program} {e : Env} {below : List Frame} {s : State} {sargs : Array Value} {len W : Nat} (x t : Addr) (V : Cell) (cd : Int32) (n : Nat) (f : Nat → Int32) (y t' : Addr) (V' : Cell) (cd' : Int32) (k : Nat) (g : Nat → Int32) (z : Int32) (htab : tab.before sargs s = true) (hfr : 2 ≤ R.frames) (hlo : W + 28 ≤ R.locals) :
    Back l R p e below s sargs yN len W (fun A₁ a₁ => A₁.cells + 0 ≤ R.cells ∧ A₁.slots + 0 ≤ R.slots ∧ P x t V cd n f y t' V' cd' k g z a₁ A₁.U) (fun A₁ _ v₁ B₁ => Says01 (SameT n f k g) v₁ A₁.U B₁.U ∧ B₁.locs = A₁.locs ++ [] ∧ B₁.cells = A₁.cells + 0 ∧ B₁.slots = A₁.slots + 0) :=
  (law l x t V cd n f y t' V' cd' k g z).pays htab hfr (by omega)
end SEq
end StrChars
namespace StrChars.Road
open Jvm Sem ClassFile Op Lib Jvm.Stand Jvm.Free Jvm.Free.XT
open Jvm.Lib.Cold (StaticIs)
/-- the words of String.equals(Object) -/
abbrev wordsEq : List Jvm.Cond := [.code SEq.yN SEq.yB 3 (some .boolean), .initialized ST, .classLink ST 10 ST, .fieldLink ST 38 ST "COMPACT_STRINGS" "Z", .fieldLink ST 15 ST "coder" "B", .fieldLink ST 9 ST "value" "[B", .methodLink ST 541 LEq.yN, .static LEq.yN, .code LEq.yN LEq.yB 3 (some .boolean), .initialized "java/lang/StringLatin1"]
theorem tabEq_of {a : Array Value} {s : State} (h : ∀ w ∈ wordsEq, w.before a s = true) : SEq.tab.before a s = true := by
  have hl : LEq.tab.before a s = true := unparts (wk h (.code LEq.yN LEq.yB 3 (some .boolean))) (wks h (.initialized LEq.yN.cls :: LEq.site))
  have q := consq hl h
  exact unparts (wk q (.code SEq.yN SEq.yB 3 (some .boolean))) (wks q (.initialized SEq.yN.cls :: SEq.site))
theorem movedEq {Z s : State} {a0 args : Array Value} (hZ : Z.Warmed39 s.vm) (hw : ∀ d ∈ wordsEq, d.before a0 Z = true) : ∀ d ∈ wordsEq, d.before args s = true := fun d hd => by
  have t : ∀ d ∈ wordsEq, (d.onTables && d.keepsFace) = true := by decide +kernel
  exact RoadKit.mv hZ (hw d hd) (t d hd)
/-- the road's facts of a String, as the laws ask it -/
theorem txt_of {Z U : State} {a0 : Array Value} {kI : Nat} (wi : (Jvm.Cond.instantiable ST kI).before a0 Z = true) (al : Z.vm.Alike U.vm) {x t : Addr} {kb : ClassId} {cs : List Int32} {cd N2 : Int32} {vs : List Value} (E : RoadKit.Exa Z U.heap x ST) (V : RoadKit.Fld Z U.heap x ST "value" "[B" (.ref t)) (C : RoadKit.Fld Z U.heap x ST "coder" "B" (.int cd)) (K : RoadKit.Arv Z U.heap t kb .byte N2 vs (.int 0)) (hc : CodA cs cd N2 vs) (hb : ∀ c ∈ cs, ¬ c < 0 ∧ ¬ (65535 : Int32) < c) (l2 : cs.length ≤ 4000) :
    ∃ A, Txt x t A cd cs.length (fun j => cs.getD j 0) U := by
  obtain ⟨A, K1, K2, K3, K4, K5, K6⟩ := K
  have hcod := hc.cod (by omega) K3 K5
  obtain ⟨D, fV, fC, hB, F1, F2, g1, g2, -, -⟩ := strObj wi al E V C
  exact ⟨A, ⟨_, hB.2.2.1, D, hB.1, rfl, by cases q : D.vm <;> first | rfl | exact absurd q (hB.2.1.2 _)⟩, Has.of hB F1 g1, Has.of hB F2 g2, ⟨K1.1, State.isArrayOf_alike al K1.2.1, K1.2.2, by rcases hcod with ⟨-, q, -⟩ | ⟨-, q, -⟩ <;> omega⟩, hcod, fun j hj => by
    have e : cs.getD j 0 = cs[j] := by simp [List.getD_eq_getElem?_getD, hj]
    show ¬ cs.getD j 0 < 0 ∧ ¬ 65535 < cs.getD j 0
    rw [e]; exact hb _ (List.getElem_mem _)⟩
theorem same_list (cs ds : List Int32) : SameT cs.length (fun j => cs.getD j 0) ds.length (fun j => ds.getD j 0) ↔ cs = ds := by
  constructor
  · rintro ⟨e, q⟩
    refine List.ext_getElem e fun j h1 h2 => ?_
    have := q j h1
    simpa [List.getD_eq_getElem?_getD, h1, h2] using this
  · rintro rfl
    exact ⟨rfl, fun _ _ => rfl⟩
/-- **equals(Object) OF TWO SUCH STRINGS**: 1 just where the chars are the same -/
theorem eqW {p : Program} {l : Launch} {e : Env} {R : Room} {s : State} {args : Array Value} {below : List Frame} {len W : Nat} {Z : State} {a0 : Array Value} {h : Heap} (hZ : Z.Warmed39 s.vm) (hw : ∀ d ∈ wordsEq, d.before a0 Z = true) {kI : Nat} (wi : (Jvm.Cond.instantiable ST kI).before a0 Z = true)
    {x t : Addr} {kb : ClassId} {cs : List Int32} {cd N2 : Int32} {vs : List Value} (E : RoadKit.Exa Z h x ST) (V : RoadKit.Fld Z h x ST "value" "[B" (.ref t)) (C : RoadKit.Fld Z h x ST "coder" "B" (.int cd)) (K : RoadKit.Arv Z h t kb .byte N2 vs (.int 0)) (hc : CodA cs cd N2 vs) (hb : ∀ c ∈ cs, ¬ c < 0 ∧ ¬ (65535 : Int32) < c) (l2 : cs.length ≤ 4000)
    {y t' : Addr} {kb' : ClassId} {ds : List Int32} {cd' N2' : Int32} {vs' : List Value} (E' : RoadKit.Exa Z h y ST) (V' : RoadKit.Fld Z h y ST "value" "[B" (.ref t')) (C' : RoadKit.Fld Z h y ST "coder" "B" (.int cd')) (K' : RoadKit.Arv Z h t' kb' .byte N2' vs' (.int 0)) (hc' : CodA ds cd' N2' vs') (hb' : ∀ c ∈ ds, ¬ c < 0 ∧ ¬ (65535 : Int32) < c) (l2' : ds.length ≤ 4000)
    {z : Int32} (S : RoadKit.Sta Z h ST "COMPACT_STRINGS" "Z" (.int z)) (hz : ¬ z = 0) (hfr : 2 ≤ R.frames) (hlo : W + 28 ≤ R.locals) :
    Back l R p e below s args (⟨"java/lang/String", "equals", "(Ljava/lang/Object;)Z"⟩ : MethodName) len W (fun P a => a = #[.ref x, .ref y] ∧ P.U.heap = h ∧ P.cells + 0 ≤ R.cells ∧ P.slots + 0 ≤ R.slots)
      (fun P _ v B => ∃ L, (((v = some (.int 1) ∧ cs = ds) ∨ (v = some (.int 0) ∧ ¬ cs = ds)) ∧ L = [] ∧ B.U.heap = h) ∧ B.locs = P.locs ++ L ∧ B.cells = P.cells + 0 ∧ B.slots = P.slots + 0) := by
  intro m meth c P g ig mk a X hg hsize hdg hW hn hp'
  obtain ⟨rfl, rfl, r1, r2⟩ := hp'
  have al : Z.vm.Alike P.U.vm := hZ.alike.trans X.warmed.alike
  obtain ⟨A, hx⟩ := txt_of wi al E V C K hc hb l2
  obtain ⟨A', hy⟩ := txt_of wi al E' V' C' K' hc' hb' l2'
  obtain ⟨v, B, X', ⟨⟨w, hv, hh, hq⟩, hl, hk, hs⟩, st⟩ := SEq.pays x t A cd cs.length (fun j => cs.getD j 0) y t' A' cd' ds.length (fun j => ds.getD j 0) z (tabEq_of (movedEq hZ hw)) hfr hlo m meth c P g ig mk _ X hg hsize hdg hW hn ⟨r1, r2, rfl, hx, hy, sta_is al S, hz⟩
  refine ⟨v, B, X', ⟨[], ⟨?_, rfl, hh⟩, hl, hk, hs⟩, st⟩
  rcases hq with ⟨rfl, q⟩ | ⟨rfl, q⟩
  · exact Or.inl ⟨hv, (same_list cs ds).mp q⟩
  · exact Or.inr ⟨hv, fun e => q ((same_list cs ds).mpr e)⟩
end StrChars.Road
namespace StrChars.Road
open Jvm Sem ClassFile Op Lib Jvm.Stand Jvm.Free Jvm.Free.XT
open Jvm.Lib.Cold (StaticIs)
/-- what backV says of its String, as the contracts of this text ask it: cs's low bytes, coder 0 -/
theorem codOf {cs : List Int32} {n : Nat} (hn : cs.length = n) (hb : ∀ c ∈ cs, ¬ 255 < c) : CodA cs 0 (Int32.ofNat n) ((cs.map lo8).map Value.int) := Or.inl ⟨rfl, by rw [hn], by simp [List.map_map, Function.comp_def], hb⟩
end StrChars.Road
end Jvm.Pilot.@@N@@

namespace Jvm.Pilot.@@N@@.Own
open Jvm Jvm.ClassFile Sem Op Lib Jvm.Free Jvm.Stand Jvm.LawKit Jvm.RoadKit
abbrev ST : String := "java/lang/String"
abbrev Nar (_s : State) (_vm : Vm) : Prop := True
/-- where a walk stands -/
def Sit (p : Program) (l : Launch) (e : Env) (R : Room) (s : State) (m : MethodId) (args : Array Value) (below : List Frame) (meth : Method) (c : Code) (Z : State) (EL : List (String × Nat)) (own : String) (vm : Vm) (T : State) (h : Heap) (k n : Nat) : Prop :=
  ∃ locs : List Loc, Stand p l e R (s.setVm vm) m args below meth c T locs k n ∧ T.heap = h ∧ Z.Warmed39 vm ∧ vm.findClass own = some m.cls ∧ (∃ j, s.Since vm j ∧ j ≤ h.size) ∧ CHr Z EL s.vm s.heap vm h ∧ Fr Z.heap.size locs ∧ Ext Z.heap s.heap ∧ Nar s vm
/-- one step of the heap and the tables: what was kept, what may be booked -/
def Stp (Z : State) (EL : List (String × Nat)) (vm : Vm) (h : Heap) (vm' : Vm) (h' : Heap) (ws : List Addr) : Prop := Keep h h' ws ∧ CHr Z EL vm h vm' h'
def Cl (p : Program) (e : Env) (below : List Frame) (G : State → JFrame → Prop) : Prop := ∀ (T T' : State) (g g' : JFrame), (∀ t, Steps p.tables e below (T'.setTop g') t → Steps p.tables e below (T.setTop g) t) → G T' g' → G T g
def Rt (p : Program) (l : Launch) (e : Env) (R : Room) (s : State) (m : MethodId) (args : Array Value) (below : List Frame) (meth : Method) (c : Code) (Z : State) (EL : List (String × Nat)) (own : String) (Q : Option Value → Heap → Prop) (G : State → JFrame → Prop) : Prop :=
  ∀ (vm : Vm) (T : State) (h : Heap) (k n : Nat) (v : Option Value) (g : JFrame), Sit p l e R s m args below meth c Z EL own vm T h k n → k ≤ R.cells → n ≤ R.slots → (meth.sig.returnType = none → v = none) → Q v h →
    (∀ fs, (∀ (f : JFrame) (acts : List Action), f.method = m → f.locked = none → f.entered = [] → (doReturn e (T.setTop f) acts v).1 = T.setFrames fs) → Steps p.tables e below (T.setTop g) (T.setFrames fs)) → G T g
def Con (l : Launch) (Z : State) (EL : List (String × Nat)) (y : MethodName) (bytes : ByteArray) (maxL : Nat) (ret : Option FieldType) (ws : List Jvm.Cond) (rm : Room) (as : Array Value) (h : Heap) (Q : Option Value → Heap → Prop) : Prop :=
  MetFree l y (head1 (Jvm.Cond.code y bytes maxL ret :: ws) rm) (fun a U => a = as ∧ Z.Warmed39 U.vm ∧ U.heap = h ∧ CHv Z EL U.vm h) (fun _ _ _ _ _ => True) (fun _ U o U' => ∃ v L, o = .returned v ∧ (Q v U'.heap ∧ Fr Z.heap.size L) ∧ CHr Z EL U.vm U.heap U'.vm U'.heap ∧ ReturnedEndW U o U' L rm.cells rm.slots)
section L
variable {p : Program} {l : Launch} {e : Env} {R : Room} {s : State} {m : MethodId} {args : Array Value} {below : List Frame} {meth : Method} {c : Code} {Z : State} {EL : List (String × Nat)} {own : String} {a0 : Array Value} {vm vm' vm'' : Vm} {T T' : State} {h h' h'' : Heap} {k n : Nat} {G : State → JFrame → Prop} {ws ws' us : List Addr} {x a b t : Addr}
theorem irem {tb : Tables} [Ours tb] {target : State} {g : JFrame} (h : At T m c below) (hx : tb.exec = Jvm.exec) (hg : g.method = m) {x y : Int32} {rest : List Value} (hd : decode c.code g.pc = .ok (.irem, 1)) (hs : g.stack = .int y :: .int x :: rest) (hy : y ≠ 0) (hr : Steps tb e below (T.setTop { g with pc := g.pc + 1, stack := .int (x % y) :: rest }) target) : Steps tb e below (T.setTop g) target := by
  have q : x - x / y * y = x % y := irem_eq_mod x y
  exact XS.irem h hx hg hd hs hy (by rw [q]; exact hr)
theorem hw0 {g : JFrame} {rest : List Value} {W : Nat} (h0 : g.monitorRoom = 0) (h : (rest.map fun v => v.category).sum = W) : 2 * g.monitorRoom + (rest.map fun v => v.category).sum ≤ W := by rw [h0, h]; omega
theorem Cl.st (hG : Cl p e below G) {T T' : State} {g g' : JFrame} (f : ∀ t, Steps p.tables e below (T'.setTop g') t → Steps p.tables e below (T.setTop g) t) (q : G T' g') : G T g := hG T T' g g' f q
theorem old_ext {locs : List Loc} (X : Stand p l e R (s.setVm vm) m args below meth c T locs k n) (N : Fr Z.heap.size locs) (O : Ext Z.heap s.heap) : Ext Z.heap T.heap := by
  have hs := X.same
  refine ⟨Nat.le_trans O.1 hs.2.1, fun b cl hcl => ?_⟩
  obtain ⟨c', h1, h2, -, h4⟩ := hs.2.2.2.2.2 b cl (O.2 b cl hcl)
  have hb := (Array.getElem?_eq_some_iff.mp hcl).1
  have hsl : c'.slots = cl.slots := Array.ext_getElem? fun i => h4 i fun hm => absurd (N _ hm) (Nat.not_le.mpr hb)
  have hcc : c' = cl := by rw [h2, hsl]
  rw [← hcc]; exact h1
theorem Sit.here (S : Sit p l e R s m args below meth c Z EL own vm T h k n) : At T m c below := by
  obtain ⟨_, X, -⟩ := S; exact X.here
theorem Sit.warm (S : Sit p l e R s m args below meth c Z EL own vm T h k n) : Z.Warmed39 vm := by
  obtain ⟨_, -, -, q, -⟩ := S; exact q
theorem Sit.ch (S : Sit p l e R s m args below meth c Z EL own vm T h k n) : CHv Z EL vm h := by
  obtain ⟨_, -, -, -, -, -, q, -⟩ := S; exact q.1
theorem Sit.old (S : Sit p l e R s m args below meth c Z EL own vm T h k n) : Ext Z.heap h := by
  obtain ⟨_, X, rfl, -, -, -, -, N, O, -⟩ := S; exact old_ext X N O
theorem Sit.le (S : Sit p l e R s m args below meth c Z EL own vm T h k n) : Z.heap.size ≤ h.size := S.old.1
theorem Sit.mono (S : Sit p l e R s m args below meth c Z EL own vm T h k n) {k' n' : Nat} (hk : k ≤ k') (hn : n ≤ n') : Sit p l e R s m args below meth c Z EL own vm T h k' n' := by
  obtain ⟨locs, X, r⟩ := S
  exact ⟨locs, { X with same := X.same.mono hk hn }, r⟩
theorem Stp.refl (H : CHv Z EL vm h) : Stp Z EL vm h vm h [] := ⟨Keep.refl _ _, CHr.refl H⟩
theorem Stp.trans (A : Stp Z EL vm h vm' h' ws) (B : Stp Z EL vm' h' vm'' h'' ws') (q : ∀ x ∈ ws, x ∈ us) (q' : ∀ x ∈ ws', x ∈ us ∨ h.size ≤ x) : Stp Z EL vm h vm'' h'' us :=
  ⟨Keep.trans ⟨A.1.1, fun x c r z => A.1.2.1 x c r fun y => z (q x y), A.1.2.2⟩ B.1 q', A.2.trans B.2⟩
theorem Stp.mono (A : Stp Z EL vm h vm' h' ws) (q : ∀ x ∈ ws, x ∈ us) : Stp Z EL vm h vm' h' us := ⟨⟨A.1.1, fun x c r z => A.1.2.1 x c r fun y => z (q x y), A.1.2.2⟩, A.2⟩
theorem Stp.of_ext (E : Ext h h') (H : CHv Z EL vm h) : Stp Z EL vm h vm h' [] := ⟨(Keep.refl _ _).ext E, CHr.ext E H⟩
theorem Stp.of_wr {sl : Nat} {v : Value} (W : Wr h h' a sl v) (S : Safe Z EL vm h a) (H : CHv Z EL vm h) : Stp Z EL vm h vm h' [a] := ⟨Keep.of_wr W, CHr.wr W S H⟩
theorem Stp.of_keep (K : Keep h h' ws) (S : ∀ x ∈ ws, Safe Z EL vm h x) (H : CHv Z EL vm h) : Stp Z EL vm h vm h' ws := ⟨K, CHr.keep K S H⟩
theorem Stp.safe (A : Stp Z EL vm h vm' h' ws) (hx : x < h.size) (S : Safe Z EL vm h x) : Safe Z EL vm' h' x := A.2.safe hx S
theorem Stp.fld (A : Stp Z EL vm h vm' h' ws) {C f d : String} {v : Value} (F : Fld Z h a C f d v) (q : a ∉ ws) : Fld Z h' a C f d v := F.keep A.1 q
theorem Stp.exa (A : Stp Z EL vm h vm' h' ws) {C : String} (F : Exa Z h a C) : Exa Z h' a C := F.keep A.1
theorem Stp.arv (A : Stp Z EL vm h vm' h' ws) {kc : ClassId} {ty : FieldType} {z : Int32} {vs : List Value} {d : Value} (F : Arv Z h a kc ty z vs d) (q : a ∉ ws) : Arv Z h' a kc ty z vs d := F.keep A.1 q
theorem keep_mono (K : Keep h h' ws) (q : ∀ x ∈ ws, x ∈ us) : Keep h h' us := ⟨K.1, fun x c r z => K.2.1 x c r fun y => z (q x y), K.2.2⟩
theorem and255 (x : Int32) : ¬ nar .char ((x &&& (255 : Int32)).toUInt32.toUInt16.toUInt32.toInt32) < 0 ∧ ¬ (255 : Int32) < nar .char ((x &&& (255 : Int32)).toUInt32.toUInt16.toUInt32.toInt32) := by
  have e : nar .char ((x &&& (255 : Int32)).toUInt32.toUInt16.toUInt32.toInt32) = x &&& 255 := by
    rw [i2c_mask]; exact i2c_mask x
  rw [e]
  have h := c_and x 255 (by decide)
  have e1 : (255 : Int32).toInt = 255 := rfl
  have e0 : (0 : Int32).toInt = 0 := rfl
  exact ⟨fun q => by rw [Int32.lt_iff_toInt_lt, e0] at q; omega, fun q => by rw [Int32.lt_iff_toInt_lt, e1] at q; omega⟩
/-- a String whose value is still null isn't booked -/
theorem Safe.blank {n : Nat} (hal : Z.vm.Alike vm) (E : Exa Z h x ST) (F : Fld Z h x ST "value" "[B" .null) (wi : (Jvm.Cond.instantiable ST n).before a0 Z = true) : Safe Z EL vm h x := fun B => by
  obtain ⟨p, hp, u, a, hb, q, hqa, hS, hy⟩ := B
  obtain ⟨cS, ⟨⟨s1, s2, s3, ⟨cv, kv, iv, s4, s4'⟩, ⟨cc, kc, ic, s5, s5'⟩, s6, s7, s8, s9, s10, s11, s12, s13, s14, s15, s16⟩, hfS, hcS⟩, ⟨kS, k1, k2, k3⟩, hB, hbyt⟩ := hS
  rcases hy with rfl | rfl
  · obtain ⟨cell, cf, kf, i, f, f1, f2, f3, f4, f5, f6, f7⟩ := F
    obtain ⟨kz, z4⟩ := ff_back (Z := Z) (U := Wst Z vm h) hal s4
    cases f1.symm.trans (show h[q.sa]? = some q.sC from s1)
    rw [show Z.fieldFound? ST "value" "[B" = _ from z4] at f2
    injection f2 with f2
    simp only [Prod.mk.injEq] at f2
    obtain ⟨-, -, -, rfl⟩ := f2
    rw [s8] at f7
    injection f7 with f7
    cases f7
  · obtain ⟨cell, kx, f1, f2, f3, f4, f5⟩ := E
    cases f1.symm.trans (show h[q.sd]? = some q.SA from s10)
    obtain ⟨cI, kI, g1, g2, g3, -⟩ := Cond.instantiable_spec wi
    cases f2.symm.trans g1
    cases f3.symm.trans g2
    obtain ⟨-, k9, hk9, comp, hkind9⟩ := s11
    obtain ⟨k', hk', ek'⟩ := hal.2.2 _ _ g2
    cases hk'.symm.trans (show vm.classes[q.SA.cls]? = some k9 from hk9)
    rw [ek'] at hkind9
    exact absurd (g3.symm.trans hkind9) (by simp)
def Str (Z : State) (h : Heap) (x t : Addr) (cs : List Int32) : Prop := ∃ kb : ClassId, Exa Z h x ST ∧ Fld Z h x ST "value" "[B" (.ref t) ∧ Fld Z h x ST "coder" "B" (.int 0) ∧ Arv Z h t kb .byte (Int32.ofNat cs.length) ((cs.map fun c => c.toInt8.toInt32).map Value.int) (.int 0) ∧ (∀ c ∈ cs, ¬ c < 0 ∧ ¬ (255 : Int32) < c) ∧ cs.length ≤ 4000
theorem Str.exa {cs : List Int32} (F : Str Z h x t cs) : Exa Z h x ST := by obtain ⟨_, q, -⟩ := F; exact q
theorem Str.lt {cs : List Int32} (F : Str Z h x t cs) : x < h.size := F.exa.lt
theorem Str.ltB {cs : List Int32} (F : Str Z h x t cs) : t < h.size := by obtain ⟨_, -, -, -, q, -⟩ := F; exact q.lt
theorem Str.ext {cs : List Int32} (F : Str Z h x t cs) (E : Ext h h') : Str Z h' x t cs := by
  obtain ⟨kb, q1, q2, q3, q4, q5⟩ := F; exact ⟨kb, q1.ext E, q2.ext E, q3.ext E, q4.ext E, q5⟩
theorem Stp.str (A : Stp Z EL vm h vm' h' ws) {cs : List Int32} (F : Str Z h x t cs) (q : x ∉ ws) (r : t ∉ ws) : Str Z h' x t cs := by
  obtain ⟨kb, q1, q2, q3, q4, q5⟩ := F; exact ⟨kb, A.exa q1, A.fld q2 q, A.fld q3 q, A.arv q4 r, q5⟩
theorem Str.neB {cs : List Int32} {C : String} {n : Nat} (F : Str Z h x t cs) (E : Exa Z h a C) (w : (Jvm.Cond.instantiable C n).before a0 Z = true) : t ≠ a := by
  obtain ⟨_, -, -, -, q, -⟩ := F; exact (E.neArv q w).symm
theorem Str.ne {cs : List Int32} {C : String} (F : Str Z h x t cs) (E : Exa Z h a C) (q : C ≠ ST) : x ≠ a := (E.ne F.exa q).symm
theorem arr_neK {k1 k2 : ClassId} {t1 t2 : FieldType} {z1 z2 : Int32} {v1 v2 : List Value} {d1 d2 : Value} (A : Arv Z h a k1 t1 z1 v1 d1) (B : Arv Z h b k2 t2 z2 v2 d2) (q : t1 ≠ t2) : a ≠ b := fun e => by
  subst e
  obtain ⟨c1, ⟨p1, ⟨-, kA, r1, m1, s1⟩, -⟩, -⟩ := A
  obtain ⟨c2, ⟨p2, ⟨-, kB, r2, m2, s2⟩, -⟩, -⟩ := B
  cases p1.symm.trans p2
  cases r1.symm.trans r2
  exact q (by have := s1.symm.trans s2; injection this)
theorem Str.neV {cs : List Int32} {kc : ClassId} {ty : FieldType} {z : Int32} {vs : List Value} {d : Value} (F : Str Z h x t cs) (A : Arv Z h a kc ty z vs d) (q : ty ≠ .byte) : t ≠ a := by
  obtain ⟨_, -, -, -, r, -⟩ := F; exact arr_neK r A (Ne.symm q)
theorem Str.neX {cs : List Int32} {n : Nat} {kc : ClassId} {ty : FieldType} {z : Int32} {vs : List Value} {d : Value} (F : Str Z h x t cs) (A : Arv Z h a kc ty z vs d) (w : (Jvm.Cond.instantiable ST n).before a0 Z = true) : x ≠ a := F.exa.neArv A w
/-- Stepping laws. -/
theorem Sit.getF (hG : Cl p e below G) (S : Sit p l e R s m args below meth c Z EL own vm T h k n) (hx : p.tables.exec = Jvm.exec) {R0 O nm d host : String} {index : Nat} (w : (Jvm.Cond.fieldLink own index R0 nm d).before a0 Z = true ∨ (Jvm.Cond.fieldLinkNest own index R0 nm d host).before a0 Z = true) (via : Via Z R0 O nm d) {v : Value} (F : Fld Z h a O nm d v)
    {g : JFrame} (hg : g.method = m) {rest : List Value} (hs : g.stack = .ref a :: rest) (hd : decode c.code g.pc = .ok (.getfield index, 3)) (K : ∀ T', Sit p l e R s m args below meth c Z EL own vm T' h k n → G T' { g with pc := g.pc + 3, stack := v :: rest }) : G T g := by
  obtain ⟨locs, X, eT, hZ, hown, r⟩ := S
  obtain ⟨T', X', e', st⟩ := RoadKit.getF X hx hZ hown w via eT F hg hs hd
  exact hG.st st (K T' ⟨locs, X', e', hZ, hown, r⟩)
theorem Sit.getS (hG : Cl p e below G) (S : Sit p l e R s m args below meth c Z EL own vm T h k n) (hx : p.tables.exec = Jvm.exec) {R0 O nm d host : String} {index : Nat} (w : (Jvm.Cond.fieldLink own index R0 nm d).before a0 Z = true ∨ (Jvm.Cond.fieldLinkNest own index R0 nm d host).before a0 Z = true) (via : Via Z R0 O nm d) {v : Value} (F : Sta Z h O nm d v)
    {g : JFrame} (hg : g.method = m) (hd : decode c.code g.pc = .ok (.getstatic index, 3)) (K : ∀ T', Sit p l e R s m args below meth c Z EL own vm T' h k n → G T' { g with pc := g.pc + 3, stack := v :: g.stack }) : G T g := by
  obtain ⟨locs, X, eT, hZ, hown, r⟩ := S
  obtain ⟨T', X', e', st⟩ := RoadKit.getS2 X hx hZ hown w via eT F hg hd
  exact hG.st st (K T' ⟨locs, X', e', hZ, hown, r⟩)
theorem fr_one {locs : List Loc} {sl : Nat} (N : Fr Z.heap.size locs) (ga : Z.heap.size ≤ a) : Fr Z.heap.size (locs ++ [⟨a, sl⟩]) := N.app fun y hy => by cases List.mem_singleton.mp hy; exact ga
theorem Sit.putF (hG : Cl p e below G) (S : Sit p l e R s m args below meth c Z EL own vm T h k n) (hx : p.tables.exec = Jvm.exec) {R0 O nm d host C : String} {index kk : Nat} {ty : FieldType} (w : (Jvm.Cond.fieldLink own index R0 nm d).before a0 Z = true ∨ (Jvm.Cond.fieldLinkNest own index R0 nm d host).before a0 Z = true) (via : Via Z R0 O nm d) {v old : Value} (F : Fld Z h a O nm d old) (E : Exa Z h a C)
    (L : (Jvm.Cond.lays C O nm d).before a0 Z = true ∨ ((Jvm.Cond.laysFinal C O nm d).before a0 Z = true ∧ own = O ∧ meth.name = "<init>")) (wi : (Jvm.Cond.instantiable C kk).before a0 Z = true) (hty : parseFieldDescriptor d = some ty) (hn : narrow ty v = v) (hf : fits ty v = true) (ga : Z.heap.size ≤ a) (sf : Safe Z EL vm h a)
    {g : JFrame} (hg : g.method = m) {rest : List Value} (hs : g.stack = v :: .ref a :: rest) (hd : decode c.code g.pc = .ok (.putfield index, 3)) (K : ∀ T' h', Sit p l e R s m args below meth c Z EL own vm T' h' k n → Stp Z EL vm h vm h' [a] → Wr h h' a (RoadKit.slotOf Z O nm d) v → Fld Z h' a O nm d v → G T' { g with pc := g.pc + 3, stack := rest }) : G T g := by
  obtain ⟨locs, X, eT, hZ, hown, ⟨j, hS, hj⟩, C0, N, r⟩ := S
  obtain ⟨T', h', X', e', W, st⟩ := RoadKit.putF X hx hZ hown w via eT F E L wi hty hn hf hg hs hd
  have J := Stp.of_wr W sf C0.1
  exact hG.st st (K T' h' ⟨_, X', e', hZ, hown, ⟨j, hS, Nat.le_trans hj J.1.1⟩, C0.trans J.2, fr_one N ga, r⟩ J W (F.same W))
theorem Sit.newO (hG : Cl p e below G) (S : Sit p l e R s m args below meth c Z EL own vm T h k n) (hx : p.tables.exec = Jvm.exec) {C : String} {index nn : Nat} (w : (Jvm.Cond.classLink own index C).before a0 Z = true) (wi : (Jvm.Cond.instantiable C nn).before a0 Z = true) (wz : (Jvm.Cond.initialized C).before a0 Z = true)
    {g : JFrame} (hg : g.method = m) (hd : decode c.code g.pc = .ok (.new index, 3)) (hc : k + 1 ≤ R.cells) (hl : n + nn ≤ R.slots)
    (K : ∀ T' h' x, x = h.size → Sit p l e R s m args below meth c Z EL own vm T' h' (k + 1) (n + nn) → Stp Z EL vm h vm h' [] → Safe Z EL vm h' x → Exa Z h' x C → (∀ {O nm d : String} {ty : FieldType}, Laid Z a0 C O nm d → parseFieldDescriptor d = some ty → Fld Z h' x O nm d (defaultValue ty)) → G T' { g with pc := g.pc + 3, stack := .ref x :: g.stack }) : G T g := by
  obtain ⟨locs, X, eT, hZ, hown, ⟨j, hS, hj⟩, C0, r⟩ := S
  obtain ⟨T', h', X', e', E, A, D, -, st⟩ := RoadKit.newO X hx hZ hown w wi wz eT hg hd hc hl
  exact hG.st st (K T' h' _ rfl ⟨locs, X', e', hZ, hown, ⟨j, hS, Nat.le_trans hj E.1⟩, C0.trans (CHr.ext E C0.1), r⟩ (Stp.of_ext E C0.1) (Safe.ext E C0.1 (Safe.new (Nat.le_refl _))) A D)
theorem Sit.newP (hG : Cl p e below G) (S : Sit p l e R s m args below meth c Z EL own vm T h k n) (hx : p.tables.exec = Jvm.exec) {aty : ArrayType} (w : (Jvm.Cond.arrayClass (newarray.typeOf aty)).before a0 Z = true) {g : JFrame} (hg : g.method = m) (hd : decode c.code g.pc = .ok (.newarray aty, 2)) {z : Int32} {rest : List Value} (hs : g.stack = .int z :: rest)
    (hz : ¬ z < 0) {cap : Nat} (hcap : z.toNatClampNeg ≤ cap) (hb : cap * 8 ≤ 536870912) (hc : k + 1 ≤ R.cells) (hl : n + cap ≤ R.slots)
    (K : ∀ T' h' x cA, x = h.size → Sit p l e R s m args below meth c Z EL own vm T' h' (k + 1) (n + cap) → Stp Z EL vm h vm h' [] → Safe Z EL vm h' x → Arv Z h' x cA (newarray.typeOf aty) z (List.replicate z.toNatClampNeg (defaultValue (newarray.typeOf aty))) (defaultValue (newarray.typeOf aty)) → G T' { g with pc := g.pc + 2, stack := .ref x :: rest }) : G T g := by
  obtain ⟨locs, X, eT, hZ, hown, ⟨j, hS, hj⟩, C0, r⟩ := S
  obtain ⟨T', h', cA, X', e', E, A, st⟩ := RoadKit.newP X hx hZ w eT hg hd hs hz hcap hb hc hl
  exact hG.st st (K T' h' _ cA rfl ⟨locs, X', e', hZ, hown, ⟨j, hS, Nat.le_trans hj E.1⟩, C0.trans (CHr.ext E C0.1), r⟩ (Stp.of_ext E C0.1) (Safe.ext E C0.1 (Safe.new (Nat.le_refl _))) ((Arv.new A hz).pad (pad_rep [] _ _)))
theorem Sit.stC (hG : Cl p e below G) (S : Sit p l e R s m args below meth c Z EL own vm T h k n) (hx : p.tables.exec = Jvm.exec) {kc : ClassId} {z : Int32} {vs : List Value} {d : Value} (V : Arv Z h a kc .char z vs d) (ga : Z.heap.size ≤ a) {j y : Int32} (hj : ¬ j < 0 ∧ j < z) (i : Nat) (hi : j.toNatClampNeg = i) (hil : i < vs.length)
    {g : JFrame} (hg : g.method = m) {rest : List Value} (hs : g.stack = .int y :: .int j :: .ref a :: rest) (hd : decode c.code g.pc = .ok (.castore, 1)) (K : ∀ T' h', Sit p l e R s m args below meth c Z EL own vm T' h' k n → Stp Z EL vm h vm h' [a] → Arv Z h' a kc .char z (vs.set i (.int (nar .char y))) d → G T' { g with pc := g.pc + 1, stack := rest }) : G T g := by
  obtain ⟨locs, X, eT, hZ, hown, ⟨jj, hS, hjj⟩, C0, N, r⟩ := S
  obtain ⟨cl, A, q1, q2, q3, q4, q5⟩ := V
  obtain ⟨T', h', X', e', W, st⟩ := RoadKit.stC X hx hZ eT A (inb_of q2 hj) hg hs hd
  have J := Stp.of_wr W (Safe.arr hZ.alike A (by decide)) C0.1
  exact hG.st st (K T' h' ⟨_, X', e', hZ, hown, ⟨jj, hS, Nat.le_trans hjj J.1.1⟩, C0.trans J.2, fr_one N ga, r⟩ J (Arv.set A q1 q2 q3 q4 q5 (fits_nar_char _) W i hi hil))
theorem Sit.stB (hG : Cl p e below G) (S : Sit p l e R s m args below meth c Z EL own vm T h k n) (hx : p.tables.exec = Jvm.exec) {kc : ClassId} {z : Int32} {vs : List Value} {d : Value} (V : Arv Z h a kc .byte z vs d) (ga : Z.heap.size ≤ a) (sf : Safe Z EL vm h a) {j y : Int32} (hj : ¬ j < 0 ∧ j < z) (i : Nat) (hi : j.toNatClampNeg = i) (hil : i < vs.length)
    {g : JFrame} (hg : g.method = m) {rest : List Value} (hs : g.stack = .int y :: .int j :: .ref a :: rest) (hd : decode c.code g.pc = .ok (.bastore, 1)) (K : ∀ T' h', Sit p l e R s m args below meth c Z EL own vm T' h' k n → Stp Z EL vm h vm h' [a] → Arv Z h' a kc .byte z (vs.set i (.int (nar .byte y))) d → G T' { g with pc := g.pc + 1, stack := rest }) : G T g := by
  obtain ⟨locs, X, eT, hZ, hown, ⟨jj, hS, hjj⟩, C0, N, r⟩ := S
  obtain ⟨cl, A, q1, q2, q3, q4, q5⟩ := V
  obtain ⟨T', h', X', e', W, st⟩ := RoadKit.stB X hx hZ eT A (inb_of q2 hj) hg hs hd
  have J := Stp.of_wr W sf C0.1
  exact hG.st st (K T' h' ⟨_, X', e', hZ, hown, ⟨jj, hS, Nat.le_trans hjj J.1.1⟩, C0.trans J.2, fr_one N ga, r⟩ J (Arv.set A q1 q2 q3 q4 q5 (fits_nar_byte _) W i hi hil))
theorem Sit.caload (hG : Cl p e below G) (S : Sit p l e R s m args below meth c Z EL own vm T h k n) (hx : p.tables.exec = Jvm.exec) {kc : ClassId} {z : Int32} {vs : List Value} {d : Value} (V : Arv Z h a kc .char z vs d) {j : Int32} (hj : ¬ j < 0 ∧ j < z) {v : Value} (hv : vs.getD j.toNatClampNeg d = v)
    {g : JFrame} (hg : g.method = m) {rest : List Value} (hs : g.stack = .int j :: .ref a :: rest) (hd : decode c.code g.pc = .ok (.caload, 1)) (q : G T { g with pc := g.pc + 1, stack := v :: rest }) : G T g := by
  obtain ⟨locs, X, eT, hZ, hown, r⟩ := S
  obtain ⟨cl, A, q1, q2, q3, q4, q5⟩ := V
  exact hG.st (fun t q => X.caload hx (by rw [eT]; exact A.1) (State.isArrayOf_alike hZ.alike A.2.1) A.2.2 (inb_of q2 hj) (q4.at (inb_of q2 hj) hv) hg hs hd t q) q
theorem Sit.aaload (hG : Cl p e below G) (S : Sit p l e R s m args below meth c Z EL own vm T h k n) (hx : p.tables.exec = Jvm.exec) {kc : ClassId} {ty : FieldType} {z : Int32} {vs : List Value} {d : Value} (V : Arv Z h a kc ty z vs d) (hty : ty.isReference = true) {j : Int32} (hj : ¬ j < 0 ∧ j < z) {v : Value} (hv : vs.getD j.toNatClampNeg d = v)
    {g : JFrame} (hg : g.method = m) {rest : List Value} (hs : g.stack = .int j :: .ref a :: rest) (hd : decode c.code g.pc = .ok (.aaload, 1)) (q : G T { g with pc := g.pc + 1, stack := v :: rest }) : G T g := by
  obtain ⟨locs, X, eT, hZ, hown, r⟩ := S
  obtain ⟨cl, A, q1, q2, q3, q4, q5⟩ := V
  exact hG.st (fun t q => X.aaload hx (by rw [eT]; exact A.1) (State.isArrayOf_alike hZ.alike A.2.1) hty A.2.2 (inb_of q2 hj) (q4.at (inb_of q2 hj) hv) hg hs hd t q) q
theorem Sit.arraylength (hG : Cl p e below G) (S : Sit p l e R s m args below meth c Z EL own vm T h k n) (hx : p.tables.exec = Jvm.exec) {kc : ClassId} {ty : FieldType} {z : Int32} {vs : List Value} {d : Value} (V : Arv Z h a kc ty z vs d)
    {g : JFrame} (hg : g.method = m) {rest : List Value} (hs : g.stack = .ref a :: rest) (hd : decode c.code g.pc = .ok (.arraylength, 1)) (q : G T { g with pc := g.pc + 1, stack := .int z :: rest }) : G T g := by
  obtain ⟨locs, X, eT, hZ, hown, r⟩ := S
  obtain ⟨cl, A, q1, q2, q3, q4, q5⟩ := V
  exact hG.st (fun t q => X.arraylength hx (by rw [eT]; exact A.1) (State.isArrayOf_alike hZ.alike A.2.1) hg hs hd t (by rw [len_of q2 q3]; exact q)) q
theorem Sit.acmp (hG : Cl p e below G) (S : Sit p l e R s m args below meth c Z EL own vm T h k n) (hx : p.tables.exec = Jvm.exec) {g : JFrame} (hg : g.method = m) {cd : ACond} {v w : Value} (h1 : v.isRef = true) (h2 : w.isRef = true) {rest : List Value} {o : Int} {pc0 pc' : Nat} {same : Bool} (hpc : g.pc = pc0)
    (hd : decode c.code g.pc = .ok (.if_acmp cd o, 3)) (hs : g.stack = w :: v :: rest) (hq : decide (v = w) = same) (ho : 0 ≤ (pc0 : Int) + o) (hp : pc' = if acV cd same = true then ((pc0 : Int) + o).toNat else pc0 + 3) (q : G T { g with pc := pc', stack := rest }) : G T g := by
  obtain ⟨_, X, -⟩ := S
  exact hG.st (fun t r => RoadKit.acmp X hx hg h1 h2 hpc hd hs hq ho hp r) q
theorem Sit.instNull (hG : Cl p e below G) (S : Sit p l e R s m args below meth c Z EL own vm T h k n) (hx : p.tables.exec = Jvm.exec) {g : JFrame} (hg : g.method = m) {rest : List Value} (hs : g.stack = .null :: rest) {i : Nat} (hd : decode c.code g.pc = .ok (.instanceof i, 3)) (q : G T { g with pc := g.pc + 3, stack := .int 0 :: rest }) : G T g := by
  obtain ⟨_, X, -⟩ := S
  exact hG.st (fun t r => X.instanceofNull hx hg hs hd t r) q
theorem Sit.castNull (hG : Cl p e below G) (S : Sit p l e R s m args below meth c Z EL own vm T h k n) (hx : p.tables.exec = Jvm.exec) {g : JFrame} (hg : g.method = m) {rest : List Value} (hs : g.stack = .null :: rest) {i : Nat} (hd : decode c.code g.pc = .ok (.checkcast i, 3)) (q : G T { g with pc := g.pc + 3 }) : G T g := by
  obtain ⟨_, X, -⟩ := S
  exact hG.st (fun t r => X.checkcastNull hx hg hs hd t r) q
theorem Sit.ldcI (hG : Cl p e below G) (S : Sit p l e R s m args below meth c Z EL own vm T h k n) (hx : p.tables.exec = Jvm.exec) {index : Nat} {z : Int32} (w : (Jvm.Cond.constant own index z).before a0 Z = true) {g : JFrame} (hg : g.method = m) (hd : decode c.code g.pc = .ok (.ldc index, 2)) (q : G T { g with pc := g.pc + 2, stack := .int z :: g.stack }) : G T g := by
  obtain ⟨_, X, _, hZ, hown, -⟩ := S
  exact hG.st (fun t r => X.ldcInt hx hown (mvT hZ w) hg hd t r) q
theorem Sit.initO (hG : Cl p e below G) (S : Sit p l e R s m args below meth c Z EL own vm T h k n) (hx : p.tables.exec = Jvm.exec) {idx : Nat} (w1 : (Jvm.Cond.methodLink own idx Lib.objectInit).before a0 Z = true) (w2 : (Jvm.Cond.instanceMethod Lib.objectInit).before a0 Z = true) (w3 : (Jvm.Cond.code Lib.objectInit ⟨#[0xb1]⟩ 1 none).before a0 Z = true)
    {g : JFrame} (hg : g.method = m) (hsize : g.locals.size = c.maxLocals) {rest : List Value} (hs : g.stack = .ref a :: rest) (hd : decode c.code g.pc = .ok (.invokespecial idx, 3)) (hf : 1 ≤ R.frames) {W : Nat} (hW : 2 * g.monitorRoom + (rest.map fun v => v.category).sum ≤ W) (hl : W + 12 ≤ R.locals)
    (K : ∀ T', Sit p l e R s m args below meth c Z EL own vm T' h k n → G T' { g with pc := g.pc + 3, stack := rest }) : G T g := by
  obtain ⟨locs, X, eT, hZ, hown, r⟩ := S
  obtain ⟨T', X', e', st⟩ := RoadKit.initO X hx hZ hown w1 w2 w3 eT hg hsize hs hd hf hW hl
  exact hG.st st (K T' ⟨locs, X', e', hZ, hown, r⟩)
theorem Sit.castY (hG : Cl p e below G) (S : Sit p l e R s m args below meth c Z EL own vm T h k n) (hx : p.tables.exec = Jvm.exec) {K0 : String} {index : Nat} (w : (Jvm.Cond.classLink own index K0).before a0 Z = true) (F : Ins Z h a K0 true)
    {g : JFrame} (hg : g.method = m) {rest : List Value} (hs : g.stack = .ref a :: rest) (hd : decode c.code g.pc = .ok (.checkcast index, 3)) (K : ∀ T', Sit p l e R s m args below meth c Z EL own vm T' h k n → G T' { g with pc := g.pc + 3 }) : G T g := by
  obtain ⟨locs, X, eT, hZ, hown, r⟩ := S
  obtain ⟨T', X', e', st⟩ := RoadKit.castY X hx hZ hown w eT F hg hs hd
  exact hG.st st (K T' ⟨locs, X', e', hZ, hown, r⟩)
theorem Sit.cloneA (hG : Cl p e below G) (S : Sit p l e R s m args below meth c Z EL own vm T h k n) (hx : p.tables.exec = Jvm.exec) {ad : String} {index : Nat}
    (w1 : (Jvm.Cond.methodLink own index ⟨ad, "clone", "()Ljava/lang/Object;"⟩).before a0 Z = true) (w2 : (Jvm.Cond.sameMethod ad "java/lang/Object" "clone" "()Ljava/lang/Object;").before a0 Z = true) (w3 : (Jvm.Cond.native ⟨"java/lang/Object", "clone", "()Ljava/lang/Object;"⟩).before a0 Z = true)
    (w4 : (Jvm.Cond.instanceMethod ⟨"java/lang/Object", "clone", "()Ljava/lang/Object;"⟩).before a0 Z = true) (w5 : (Jvm.Cond.selects ad ⟨ad, "clone", "()Ljava/lang/Object;"⟩ ⟨"java/lang/Object", "clone", "()Ljava/lang/Object;"⟩).before a0 Z = true) (w6 : (Jvm.Cond.castable ad "java/lang/Cloneable").before a0 Z = true)
    {kc : ClassId} {ty : FieldType} {z : Int32} {vs : List Value} {d : Value} (F : Arv Z h a kc ty z vs d) (E : Exa Z h a ad) {g : JFrame} (hg : g.method = m) (hsize : g.locals.size = c.maxLocals) {rest : List Value} (hst : g.stack = .ref a :: rest) (hd : decode c.code g.pc = .ok (.invokevirtual index, 3))
    (hf : 1 ≤ R.frames) {W cap : Nat} (hW : 2 * g.monitorRoom + (rest.map fun v => v.category).sum ≤ W) (hl : W + 14 ≤ R.locals) (hcap : z.toNatClampNeg ≤ cap) (hc : k + 1 ≤ R.cells) (hsl : n + cap ≤ R.slots)
    (K : ∀ T' h' x, x = h.size → Sit p l e R s m args below meth c Z EL own vm T' h' (k + 1) (n + cap) → Stp Z EL vm h vm h' [] → Arv Z h' x kc ty z vs d → Exa Z h' x ad → G T' { g with pc := g.pc + 3, stack := .ref x :: rest }) : G T g := by
  obtain ⟨locs, X, eT, hZ, hown, ⟨j, hS, hj⟩, C0, r⟩ := S
  obtain ⟨T', h', X', e', E', A, D, st⟩ := RoadKit.cloneH X hx hZ hown w1 w2 w3 w4 w5 w6 eT F.arh E hg hsize hst hd hf hW hl hcap hc hsl
  exact hG.st st (K T' h' _ rfl ⟨locs, X', e', hZ, hown, ⟨j, hS, Nat.le_trans hj E'.1⟩, C0.trans (CHr.ext E' C0.1), r⟩ (Stp.of_ext E' C0.1) A D)
theorem Sit.ldc (hG : Cl p e below G) (S : Sit p l e R s m args below meth c Z EL own vm T h k n) (hx : p.tables.exec = Jvm.exec) (hEL : EW Z a0 EL) {text : String} {index : Nat} (w : (Jvm.Cond.stringLink own index text).before a0 Z = true) (wS : ∀ a ∈ Bundle.stringAtoms, a.before a0 Z = true) (hmem : (own, index) ∈ EL) {cs : List Int32}
    (ht : (∀ c ∈ text.toList, c.toNat < 256) ∧ text.toList.map (fun c => Value.int (Jvm.Lit.byteI c.toNat.toUInt16)) = (cs.map fun c => c.toInt8.toInt32).map Value.int) (hcs : ∀ c ∈ cs, ¬ c < 0 ∧ ¬ (255 : Int32) < c) (hlen : cs.length ≤ 4000)
    {g : JFrame} (hg : g.method = m) (hd : decode c.code g.pc = .ok (.ldc index, 2)) {nn : Nat} (hn : 4 * text.toList.length ≤ nn) (hbig : nn ≤ 536870912) (hc : k + 2 ≤ R.cells) (hl' : n + (nn + 4) ≤ R.slots)
    (K : ∀ vm' T' h' a b, Sit p l e R s m args below meth c Z EL own vm' T' h' (k + 2) (n + (nn + 4)) → Stp Z EL vm h vm' h' [] → Str Z h' a b cs → (∀ x, Safe Z EL vm' h' x → x ≠ a ∧ x ≠ b) → G T' { g with pc := g.pc + 2, stack := .ref a :: g.stack }) : G T g := by
  obtain ⟨locs, X, eT, hZ, hown, ⟨j, hS, hj⟩, C0, N, O, r⟩ := S
  have hz : ¬ Int32.ofNat cs.length < 0 := by rw [Int32.lt_iff_toInt_lt, Int32.toInt_ofNat_small (by omega)]; exact Int.not_lt.mpr (Int.natCast_nonneg _)
  have hl : (Int32.ofNat cs.length).toNatClampNeg = ((cs.map fun c => c.toInt8.toInt32).map Value.int).length := by simp [Int32.toNatClampNeg, Int32.toInt_ofNat_small (show cs.length < 2 ^ 31 by omega)]
  obtain ⟨a, T', h', k1, b, kb, X', e', E, hS', hk', hZ', hown', E1, F1, F2, V1, -, -, C1, -, sf, st⟩ := ldcCH X hx hZ hown w wS eT hS hj hEL hmem C0.1 ht hz hl hg hd hn hbig hc hl'
  exact hG.st st (K _ T' h' a b ⟨locs, X', e', hZ', hown', ⟨k1, hS', hk'⟩, C0.trans C1, N, O, r⟩ ⟨(Keep.refl _ _).ext E, C1⟩ ⟨kb, E1, F2, F1, V1, hcs, hlen⟩ sf)
theorem afterS {locs L : List Loc} {U : State} {k' n' : Nat} (eT : T.heap = h) (hZ : Z.Warmed39 vm) (hown : vm.findClass own = some m.cls) (hS : ∃ j, s.Since vm j ∧ j ≤ h.size) (C : CHr Z EL s.vm s.heap vm h) (N : Fr Z.heap.size locs) (O : Ext Z.heap s.heap)
    (X' : Stand p l e R ((s.setVm vm).setVm U.vm) m args below meth c U (locs ++ L) k' n') (h2 : (s.setVm vm).Since U.vm U.heap.size) (g2 : T.heap.size ≤ U.heap.size) (N' : Fr Z.heap.size L) (C' : CHr Z EL vm h U.vm U.heap) : Sit p l e R s m args below meth c Z EL own U.vm U U.heap k' n' := by
  obtain ⟨j, hS, hj⟩ := hS
  obtain ⟨q1, q2, q3, q4⟩ := rebS (Z := Z) (own := own) hS hj X' h2 (eT ▸ g2) hZ hown
  exact ⟨_, q1, rfl, q3, q4, ⟨_, q2, Nat.le_refl _⟩, C.trans C', N.app N', O, trivial⟩
/-- calls by contract -/
theorem Sit.callS (hG : Cl p e below G) (S : Sit p l e R s m args below meth c Z EL own vm T h k n) (hx : p.tables.exec = Jvm.exec) (hEL : EW Z a0 EL) {index : Nat} {y : MethodName} {bytes : ByteArray} {maxL : Nat} {ret : Option FieldType} {rm : Room} {as : List Value} {Q : Option Value → Heap → Prop}
    (wl : (Jvm.Cond.methodLink own index y).before a0 Z = true) (wt : (Jvm.Cond.static y).before a0 Z = true) (wz : (Jvm.Cond.initialized y.cls).before a0 Z = true) (wc : (Jvm.Cond.code y bytes maxL ret).before a0 Z = true) (hy : y.cls ≠ "java/lang/invoke/MethodHandle" ∧ y.cls ≠ "java/lang/invoke/VarHandle")
    (hM : Con l Z EL y bytes maxL ret [] rm as.toArray h Q) {ps : List FieldType} {r : Option FieldType} (hd0 : parseMethodDescriptor y.desc = some ⟨ps, r⟩) (hlen : as.length = ps.length)
    {g : JFrame} (hg : g.method = m) (hsize : g.locals.size = c.maxLocals) {rest : List Value} (hs : g.stack = as.reverse ++ rest) {W : Nat} (hW : 2 * g.monitorRoom + (rest.map fun v => v.category).sum ≤ W) (hd : decode c.code g.pc = .ok (.invokestatic index, 3))
    (hf : rm.frames + 1 ≤ R.frames) (hl : W + (maxL + 11) + rm.locals ≤ R.locals) (hc : k + rm.cells ≤ R.cells) (hsl : n + rm.slots ≤ R.slots)
    (K : ∀ v vm' T' h', Sit p l e R s m args below meth c Z EL own vm' T' h' (k + rm.cells) (n + rm.slots) → CHr Z EL vm h vm' h' → Q v h' → G T' { g with pc := g.pc + 3, stack := v.toList ++ rest }) : G T g := by
  obtain ⟨locs, X, eT, hZ, hown, hS, C, N, O, hn⟩ := S
  obtain ⟨v, vm1, ⟨U, L', k', n'⟩, -, X', h2, g2, ⟨L, ⟨hQ, hF⟩, q1, q2, q3, hC⟩, st⟩ := callSS X hx hown (mvT hZ wl) (mvT hZ wt) (mvT hZ wz) (mvT hZ wc) hy (backOfSH (W := W) (Q := fun v h L => Q v h ∧ Fr Z.heap.size L) hM hZ wc wz hf hl hEL C.1) hg hsize (lenOf hd0 hlen) hs hW hd (fun _ _ => ⟨rfl, eT, hc, hsl⟩)
  dsimp only [Pt.U, Pt.locs, Pt.cells, Pt.slots] at X' h2 g2 hQ q1 q2 q3 hC st
  subst q1 q2 q3
  exact hG.st (fun t q => st.trans q) (K v U.vm U U.heap (afterS eT hZ hown hS C N O X' h2 g2 hF hC) hC hQ)
theorem Sit.callV (hG : Cl p e below G) (S : Sit p l e R s m args below meth c Z EL own vm T h k n) (hx : p.tables.exec = Jvm.exec) (hEL : EW Z a0 EL) {C : String} {index : Nat} {y : MethodName} {bytes : ByteArray} {maxL : Nat} {ret : Option FieldType} {rm : Room} {as : List Value} {Q : Option Value → Heap → Prop}
    (wl : (Jvm.Cond.methodLink own index y).before a0 Z = true) (wd : (Jvm.Cond.declares y).before a0 Z = true) (wsl : (Jvm.Cond.selects C y y).before a0 Z = true) (wim : (Jvm.Cond.instanceMethod y).before a0 Z = true) (wz : (Jvm.Cond.initialized y.cls).before a0 Z = true) (wc : (Jvm.Cond.code y bytes maxL ret).before a0 Z = true) (hy : y.cls ≠ "java/lang/invoke/MethodHandle" ∧ y.cls ≠ "java/lang/invoke/VarHandle")
    (E : Exa Z h b C) (hM : Con l Z EL y bytes maxL ret [] rm (.ref b :: as).toArray h Q) {ps : List FieldType} {r : Option FieldType} (hd0 : parseMethodDescriptor y.desc = some ⟨ps, r⟩) (hlen : as.length = ps.length)
    {g : JFrame} (hg : g.method = m) (hsize : g.locals.size = c.maxLocals) {rest : List Value} (hs : g.stack = as.reverse ++ .ref b :: rest) {W : Nat} (hW : 2 * g.monitorRoom + (rest.map fun v => v.category).sum ≤ W) (hd : decode c.code g.pc = .ok (.invokevirtual index, 3))
    (hf : rm.frames + 1 ≤ R.frames) (hl : W + (maxL + 11) + rm.locals ≤ R.locals) (hc : k + rm.cells ≤ R.cells) (hsl : n + rm.slots ≤ R.slots)
    (K : ∀ v vm' T' h', Sit p l e R s m args below meth c Z EL own vm' T' h' (k + rm.cells) (n + rm.slots) → CHr Z EL vm h vm' h' → Q v h' → G T' { g with pc := g.pc + 3, stack := v.toList ++ rest }) : G T g := by
  obtain ⟨locs, X, eT, hZ, hown, hS, C, N, O, hn⟩ := S
  obtain ⟨cB, kB, i1, -, i2⟩ := isOf (s := s.setVm vm) hZ eT E
  obtain ⟨v, vm1, ⟨U, L', k', n'⟩, -, X', h2, g2, ⟨L, ⟨hQ, hF⟩, q1, q2, q3, hC⟩, st⟩ := X.virtualBackS hx (y := y) (z := y) hown (mvT hZ wl) (mvT hZ wd) (notFace_of_selects (args := #[]) (mvT hZ wsl)) (mvT hZ wsl) (mvT hZ wim) hy (backOfSH (W := W) (Q := fun v h L => Q v h ∧ Fr Z.heap.size L) hM hZ wc wz hf hl hEL C.1) i1 i2 hg hsize (Steps.refl _) (argsL := as) (lenOf hd0 hlen) hs hW hd (fun _ _ => ⟨rfl, eT, hc, hsl⟩)
  dsimp only [Pt.U, Pt.locs, Pt.cells, Pt.slots] at X' h2 g2 hQ q1 q2 q3 hC st
  subst q1 q2 q3
  exact hG.st (fun t q => st.trans q) (K v U.vm U U.heap (afterS eT hZ hown hS C N O X' h2 g2 hF hC) hC hQ)
theorem Sit.callI (hG : Cl p e below G) (S : Sit p l e R s m args below meth c Z EL own vm T h k n) (hx : p.tables.exec = Jvm.exec) (hEL : EW Z a0 EL) {index : Nat} {y : MethodName} (hy1 : y.name = "<init>") {bytes : ByteArray} {maxL : Nat} {rm : Room} {as : List Value} {Q : Option Value → Heap → Prop}
    (wl : (Jvm.Cond.methodLink own index y).before a0 Z = true) (wim : (Jvm.Cond.instanceMethod y).before a0 Z = true) (wz : (Jvm.Cond.initialized y.cls).before a0 Z = true) (wc : (Jvm.Cond.code y bytes maxL none).before a0 Z = true) (hy : y.cls ≠ "java/lang/invoke/MethodHandle" ∧ y.cls ≠ "java/lang/invoke/VarHandle")
    (hM : Con l Z EL y bytes maxL none [] rm (.ref b :: as).toArray h Q) {ps : List FieldType} {r : Option FieldType} (hd0 : parseMethodDescriptor y.desc = some ⟨ps, r⟩) (hlen : as.length = ps.length)
    {g : JFrame} (hg : g.method = m) (hsize : g.locals.size = c.maxLocals) {rest : List Value} (hs : g.stack = as.reverse ++ .ref b :: rest) {W : Nat} (hW : 2 * g.monitorRoom + (rest.map fun v => v.category).sum ≤ W) (hd : decode c.code g.pc = .ok (.invokespecial index, 3))
    (hf : rm.frames + 1 ≤ R.frames) (hl : W + (maxL + 11) + rm.locals ≤ R.locals) (hc : k + rm.cells ≤ R.cells) (hsl : n + rm.slots ≤ R.slots)
    (K : ∀ v vm' T' h', Sit p l e R s m args below meth c Z EL own vm' T' h' (k + rm.cells) (n + rm.slots) → CHr Z EL vm h vm' h' → Q v h' → G T' { g with pc := g.pc + 3, stack := v.toList ++ rest }) : G T g := by
  obtain ⟨locs, X, eT, hZ, hown, hS, C, N, O, hn⟩ := S
  obtain ⟨v, vm1, ⟨U, L', k', n'⟩, -, X', h2, g2, ⟨L, ⟨hQ, hF⟩, q1, q2, q3, hC⟩, st⟩ := X.specialBackS hx (y := y) hy1 hown (mvT hZ wl) (mvT hZ wim) (mvT hZ wc) hy (backOfSH (W := W) (Q := fun v h L => Q v h ∧ Fr Z.heap.size L) hM hZ wc wz hf hl hEL C.1) hg hsize (Steps.refl _) (a := b) (argsL := as) (lenOf hd0 hlen) hs hW hd (fun _ _ => ⟨rfl, eT, hc, hsl⟩)
  dsimp only [Pt.U, Pt.locs, Pt.cells, Pt.slots] at X' h2 g2 hQ q1 q2 q3 hC st
  subst q1 q2 q3
  exact hG.st (fun t q => st.trans q) (K v U.vm U U.heap (afterS eT hZ hown hS C N O X' h2 g2 hF hC) hC hQ)
theorem Sit.retN {t : FieldType} {Q : Option Value → Heap → Prop} (hR : Rt p l e R s m args below meth c Z EL own Q G) (S : Sit p l e R s m args below meth c Z EL own vm T h k n) (hx : p.tables.exec = Jvm.exec) (hret : meth.sig.returnType = some t) (ht : t = .boolean ∨ t = .byte ∨ t = .char ∨ t = .short) {pc : Nat} {Ls : Array Slot} {z : Int32} {rest : List Value} (hd : decode c.code pc = .ok (.ireturn, 1)) (hk : k ≤ R.cells) (hn : n ≤ R.slots) (hQ : Q (some (.int (nar t z))) h) : G T (mkF m pc Ls (.int z :: rest)) :=
  hR vm T h k n _ _ S hk hn (fun q => by rw [hret] at q; cases q) hQ (fun fs hr => by obtain ⟨_, X, -⟩ := S; exact RoadKit.retN X hx hret ht hd hr)
theorem Sit.retO {t : FieldType} {i : Instr} {Q : Option Value → Heap → Prop} (hR : Rt p l e R s m args below meth c Z EL own Q G) (S : Sit p l e R s m args below meth c Z EL own vm T h k n) (hx : p.tables.exec = Jvm.exec) (hret : meth.sig.returnType = some t) {pc : Nat} {Ls : Array Slot} {w : Value} {rest : List Value} (hnw : narrow t w = w)
    (hi : (i = .ireturn ∧ (t = .int ∨ t = .boolean ∨ t = .byte ∨ t = .char ∨ t = .short) ∧ ∃ z, w = .int z) ∨ (i = .lreturn ∧ t = .long ∧ ∃ z, w = .long z) ∨ (i = .dreturn ∧ t = .double ∧ ∃ z, w = .double z) ∨ (i = .freturn ∧ t = .float ∧ ∃ z, w = .float z) ∨ (i = .areturn ∧ t.isReference = true ∧ w.isRef = true))
    (hd : decode c.code pc = .ok (i, 1)) (hk : k ≤ R.cells) (hn : n ≤ R.slots) (hQ : Q (some w) h) : G T (mkF m pc Ls (w :: rest)) :=
  hR vm T h k n _ _ S hk hn (fun q => by rw [hret] at q; cases q) hQ (fun fs hr => by obtain ⟨_, X, -⟩ := S; exact RoadKit.retOut X hx hret hnw hi hd hr)
theorem Sit.ret0 {Q : Option Value → Heap → Prop} (hR : Rt p l e R s m args below meth c Z EL own Q G) (S : Sit p l e R s m args below meth c Z EL own vm T h k n) (hx : p.tables.exec = Jvm.exec) (hret : meth.sig.returnType = none) {pc : Nat} {Ls : Array Slot} (hd : decode c.code pc = .ok (.return_, 1)) (hk : k ≤ R.cells) (hn : n ≤ R.slots) (hQ : Q none h) : G T (mkF m pc Ls []) :=
  hR vm T h k n _ _ S hk hn (fun q => rfl) hQ (fun fs hr => by obtain ⟨_, X, -⟩ := S; exact X.returnOut hx hret hd hr)
theorem Con.of {y : MethodName} {bytes : ByteArray} {maxL : Nat} {ret : Option FieldType} {cw : List Jvm.Cond} {rm : Room} {as : Array Value} {Q : Option Value → Heap → Prop} (hp : plainFor y = true) (hEL : EW Z a0 EL) (hO : Ext Z.heap h)
    (body : ∀ {p : Program} {e : Env} {s : State} {m : MethodId} {below : List Frame} {meth : Method} {c : Code} {T : State} {G : State → JFrame → Prop} {vm : Vm}, p.tables.exec = Jvm.exec → c.code = bytes → c.maxLocals = maxL → meth.sig.returnType = ret → meth.name = y.name → Cl p e below G → Rt p l e rm s m as below meth c Z EL y.cls Q G → Sit p l e rm s m as below meth c Z EL y.cls vm T h 0 0 → G T (entryFrame m as maxL)) :
    Con l Z EL y bytes maxL ret cw rm as h Q := by
  refine MetFree.of_bodySF hp hisR ?_
  intro p e s m args below meth c s₁ Bd hml0 hP hK
  obtain ⟨rfl, hZ, rfl, hC⟩ := hP
  have X0 : Stand p l e rm s m args below meth c s₁ [] 0 0 := Stand.of_body Bd
  have e0 : s₁.heap = s.heap := by rw [Bd.state]; rfl
  have hlk : meth.locks = false := Bd.notSynchronized
  have hX : Stand p l e rm (s.setVm s.vm) m args below meth c s₁ [] 0 0 := by rw [State.setVm_self]; exact X0
  refine body (G := fun T g => ∃ s₂ o, Steps p.tables e below (T.setTop g) s₂ ∧ s₂.status = .running ∧ Ended s₂ below o ∧ ∃ v L, o = .returned v ∧ (Q v s₂.heap ∧ Fr Z.heap.size L) ∧ CHr Z EL s.vm s.heap s₂.vm s₂.heap ∧ ReturnedEndW s o s₂ L rm.cells rm.slots) (vm := s.vm) Bd.exec Bd.bytes hml0 Bd.returns (name_of_methodNamed Bd.named Bd.method).1 (fun T T' g g' f ⟨s₂, o, st, r⟩ => ⟨s₂, o, f _ st, r⟩) ?_
    ⟨[], hX, e0, hZ, findClass_of_methodNamed Bd.named, ⟨_, (State.WarmedH.refl s).since _, Nat.le_refl _⟩, CHr.refl hC, Fr.nil _, hO, trivial⟩
  intro vm T h k n v g S hk hn hv hQ hst
  obtain ⟨locs, X, rfl, hZ', hown', ⟨j, hS, hj⟩, C0, N, O, hN⟩ := S
  obtain ⟨fs, hr, hrun, hended, hend⟩ := X.leaveW hS hj hv hlk
  exact ⟨_, _, hst fs hr, hrun, hended, v, locs, rfl, ⟨hQ, N⟩, C0.trans (show CHr Z EL vm T.heap T.vm T.heap from CHv.at X hZ' hEL C0.1), hend.1, hend.2.1, hend.2.2.1, hend.2.2.2.mono hk hn⟩
end L
end Jvm.Pilot.@@N@@.Own
namespace Jvm.Pilot.@@N@@.Own
open Jvm Jvm.ClassFile Sem Op Lib Jvm.Free Jvm.Stand Jvm.LawKit Jvm.RoadKit
section L2
variable {p : Program} {l : Launch} {e : Env} {R : Room} {s : State} {m : MethodId} {args : Array Value} {below : List Frame} {meth : Method} {c : Code} {Z : State} {EL : List (String × Nat)} {own : String} {a0 : Array Value} {vm vm' vm'' : Vm} {T T' : State} {h h' h'' : Heap} {k n : Nat} {G : State → JFrame → Prop} {ws ws' us : List Addr} {x a b t : Addr}
/-- COMPACT_STRINGS is on -/
def Cmp (Z : State) : Prop := ∃ z : Int32, Sta Z Z.heap ST "COMPACT_STRINGS" "Z" (.int z) ∧ ¬ z = 0
def Sio (Z : State) : Prop := ∃ fm : Value, Sta Z Z.heap "jdk/internal/util/Preconditions" "SIOOBE_FORMATTER" "Ljava/util/function/BiFunction;" fm ∧ fm.isRef = true
theorem up (cs : List Int32) (h : ∀ c ∈ cs, ¬ c < 0 ∧ ¬ (255 : Int32) < c) : ∀ c ∈ cs, ¬ c < 0 ∧ ¬ (65535 : Int32) < c := fun c hc => ⟨(h c hc).1, fun q => (h c hc).2 (by rw [Int32.lt_iff_toInt_lt] at q ⊢; have e1 : (65535 : Int32).toInt = 65535 := rfl; have e2 : (255 : Int32).toInt = 255 := rfl; omega)⟩
/-- a pure virtual call paid by a Back -/
theorem Sit.pureV (hG : Cl p e below G) (S : Sit p l e R s m args below meth c Z EL own vm T h k n) (hx : p.tables.exec = Jvm.exec) {C : String} {index : Nat} {y : MethodName} {as : List Value} {Q : Option Value → Prop}
    (wl : (Jvm.Cond.methodLink own index y).before a0 Z = true) (wd : (Jvm.Cond.declares y).before a0 Z = true) (wsl : (Jvm.Cond.selects C y y).before a0 Z = true) (wim : (Jvm.Cond.instanceMethod y).before a0 Z = true) (hy : y.cls ≠ "java/lang/invoke/MethodHandle" ∧ y.cls ≠ "java/lang/invoke/VarHandle")
    (E : Exa Z h b C) {W : Nat} (hK : Back l R p e below (s.setVm vm) args y 3 W (fun P a => a = (.ref b :: as).toArray ∧ P.U.heap = h ∧ P.cells + 0 ≤ R.cells ∧ P.slots + 0 ≤ R.slots) (fun P _ v B => ∃ L, (Q v ∧ L = [] ∧ B.U.heap = h) ∧ B.locs = P.locs ++ L ∧ B.cells = P.cells + 0 ∧ B.slots = P.slots + 0))
    {ps : List FieldType} {r : Option FieldType} (hd0 : parseMethodDescriptor y.desc = some ⟨ps, r⟩) (hlen : as.length = ps.length)
    {g : JFrame} (hg : g.method = m) (hsize : g.locals.size = c.maxLocals) {rest : List Value} (hs : g.stack = as.reverse ++ .ref b :: rest) (hW : 2 * g.monitorRoom + (rest.map fun v => v.category).sum ≤ W) (hd : decode c.code g.pc = .ok (.invokevirtual index, 3)) (hc : k ≤ R.cells) (hsl : n ≤ R.slots)
    (K : ∀ v T', Sit p l e R s m args below meth c Z EL own vm T' h k n → Q v → G T' { g with pc := g.pc + 3, stack := v.toList ++ rest }) : G T g := by
  obtain ⟨locs, X, eT, hZ, hown, hS, C, N, O, hn⟩ := S
  obtain ⟨cB, kB, i1, -, i2⟩ := isOf (s := s.setVm vm) hZ eT E
  obtain ⟨v, vm1, ⟨U, L', k', n'⟩, -, X', ⟨L, ⟨hq, hL, hU⟩, q1, q2, q3⟩, st⟩ := X.virtualBack hx (y := y) (z := y) hown (mvT hZ wl) (mvT hZ wd) (notFace_of_selects (args := #[]) (mvT hZ wsl)) (mvT hZ wsl) (mvT hZ wim) hy hK i1 i2 hg hsize (Steps.refl _) (argsL := as) (lenOf hd0 hlen) hs hW hd (fun _ _ => ⟨rfl, eT, hc, hsl⟩)
  dsimp only [Pt.U, Pt.locs, Pt.cells, Pt.slots] at X' hU q1 q2 q3 st
  subst q1 q2 q3 hL
  rw [List.append_nil] at X'
  exact hG.st (fun t q => st.trans q) (K v U ⟨locs, X', hU, hZ, hown, hS, C, N, O, hn⟩ hq)
section Nw
variable {args : Array Value} {u v : Term} {z : Int32} {vs : List Value} {dv : Value} {ty : FieldType} {cs : List Int32}
theorem eqI (h : (Jvm.Cond.eq u v).value args s none s [] = some true) (hb : v.eval args s none [] s = some (.int z)) : u.eval args s none [] s = some (.int z) := by
  obtain ⟨x, y, h1, h2, h3, h4⟩ := cmp_v (Or.inl h)
  cases h2.symm.trans hb
  obtain ⟨w, rfl⟩ := h4
  have := gotT (Cond.eq_ints h1 hb) h
  rw [h1, this]
theorem eqR (h : (Jvm.Cond.eq u v).value args s none s [] = some true) (hb : v.eval args s none [] s = some (.ref a)) : u.eval args s none [] s = some (.ref a) := by
  obtain ⟨x, y, h1, h2, h3, h4⟩ := cmp_v (Or.inl h)
  cases h2.symm.trans hb
  have := gotT (eq_R h1 hb h4.2 rfl) h
  rw [h1, this]
theorem eqR2 (h : (Jvm.Cond.eq u v).value args s none s [] = some true) (hb : u.eval args s none [] s = some (.ref a)) : v.eval args s none [] s = some (.ref a) := by
  obtain ⟨x, y, h1, h2, h3, h4⟩ := cmp_v (Or.inl h)
  cases h1.symm.trans hb
  have := gotT (eq_R hb h2 rfl h3.2) h
  rw [h2, ← this]
theorem arvOf (hf : Fit s) (ev : u.eval args s none [] s = some (.ref a)) (hA : (Jvm.Cond.arrayOf u ty).value args s none s [] = some true) (hl : (Jvm.Cond.eq (.length u) (.int z)).value args s none s [] = some true) (hz : ¬ z < 0) (hn : z.toNatClampNeg = vs.length)
    (hv : ∀ i (hi : i < vs.length), (Term.elem u (.int (Int32.ofNat i))).eval args s none [] s = some vs[i]) : ∃ kc, Arv s s.heap a kc ty z vs dv := by
  obtain ⟨cl, A⟩ := Arr.start ev hA
  have hlen := eqI hl (Term.int_eval z)
  have hat : s.arrayAt? a = some cl := A.fin ⟨rfl, rfl, fun _ k hk => ⟨k, hk, rfl⟩⟩
  have h31 := SBG.length_lt ev hat hlen
  have hs : cl.slots.size.toInt32 = z := by
    have := (len_f ev hat h31).symm.trans hlen
    simpa using this
  have hsz : cl.slots.size = z.toNatClampNeg := by
    rw [← hs]
    show _ = (Int32.ofNat cl.slots.size).toNatClampNeg
    simp [Int32.toNatClampNeg, Int32.toInt_ofNat_small h31]
  have hel : ∀ i, i < cl.slots.size → cl.slots[i]? = some (vs.getD i dv) := fun i hi => by
    have hi' : i < vs.length := by omega
    have q := elem_in (hv i hi') ev (Term.int_eval _) A.1
    have e : (Int32.ofNat i).toNatClampNeg = i := by simp [Int32.toNatClampNeg, Int32.toInt_ofNat_small (show i < 2 ^ 31 by omega)]
    rw [e] at q
    rw [q.2]; simp [hi']
  refine ⟨cl.cls, cl, A, rfl, hsz, hz, hel, fun i hi => ?_⟩
  have e : (Int32.ofNat i).toNatClampNeg = i := by simp [Int32.toNatClampNeg, Int32.toInt_ofNat_small (show i < 2 ^ 31 by omega)]
  have hnn : ¬ (Int32.ofNat i < 0 ∨ cl.slots.size ≤ (Int32.ofNat i).toNatClampNeg) := by
    rw [e, Int32.lt_iff_toInt_lt, Int32.toInt_ofNat_small (show i < 2 ^ 31 by omega)]
    have : (0 : Int32).toInt = 0 := rfl
    omega
  obtain ⟨w, hw1, hw2⟩ := elem_fit hf A hnn
  rw [e, hel i hi] at hw1
  cases hw1
  exact hw2
theorem strOf (hf : Fit s) (ev : u.eval args s none [] s = some (.ref x)) (E : Exa s s.heap x ST) (hc : (Term.field u ST "coder" "B").eval args s none [] s = some (.int 0)) (hv : (Term.field u ST "value" "[B").eval args s none [] s = some (.ref t))
    (hA : (Jvm.Cond.arrayOf (.field u ST "value" "[B") .byte).value args s none s [] = some true) (hl : (Jvm.Cond.eq (.length (.field u ST "value" "[B")) (.int (Int32.ofNat cs.length))).value args s none s [] = some true) (hr : ∀ c ∈ cs, ¬ c < 0 ∧ ¬ (255 : Int32) < c) (hn : cs.length ≤ 4000) (hz : (Int32.ofNat cs.length).toNatClampNeg = cs.length)
    (he : ∀ i (hi : i < cs.length), (Term.elem (.field u ST "value" "[B") (.int (Int32.ofNat i))).eval args s none [] s = some (.int (cs[i]).toInt8.toInt32)) : Str s s.heap x t cs := by
  have hz0 : ¬ Int32.ofNat cs.length < 0 := by
    rw [Int32.lt_iff_toInt_lt, Int32.toInt_ofNat_small (by omega)]
    exact Int.not_lt.mpr (Int.natCast_nonneg _)
  obtain ⟨kc, A⟩ := arvOf (dv := .int 0) (vs := (cs.map fun c => c.toInt8.toInt32).map Value.int) hf hv hA hl hz0 (by rw [hz]; simp) (fun i hi => by
    have hi' : i < cs.length := by simpa using hi
    rw [he i hi']; simp)
  exact ⟨kc, E, Fld.start ((fld_at ev).symm.trans hv), Fld.start ((fld_at ev).symm.trans hc), A, hr, hn⟩
end Nw
theorem Sit.strEq (hG : Cl p e below G) (S : Sit p l e R s m args below meth c Z EL own vm T h k n) (hx : p.tables.exec = Jvm.exec) (hws : ∀ d ∈ StrChars.Road.wordsEq, d.before a0 Z = true) (hcs : Cmp Z) (wi : (Jvm.Cond.instantiable ST 4).before a0 Z = true) {index : Nat}
    (wl : (Jvm.Cond.methodLink own index ⟨"java/lang/String", "equals", "(Ljava/lang/Object;)Z"⟩).before a0 Z = true) (wd : (Jvm.Cond.declares ⟨"java/lang/String", "equals", "(Ljava/lang/Object;)Z"⟩).before a0 Z = true) (wsl : (Jvm.Cond.selects ST ⟨"java/lang/String", "equals", "(Ljava/lang/Object;)Z"⟩ ⟨"java/lang/String", "equals", "(Ljava/lang/Object;)Z"⟩).before a0 Z = true) (wim : (Jvm.Cond.instanceMethod ⟨"java/lang/String", "equals", "(Ljava/lang/Object;)Z"⟩).before a0 Z = true)
    {cs ds : List Int32} {y u : Addr} (F : Str Z h b t cs) (F' : Str Z h y u ds) {g : JFrame} (hg : g.method = m) (hsize : g.locals.size = c.maxLocals) {rest : List Value} (hs : g.stack = .ref y :: .ref b :: rest) {W : Nat} (hW : 2 * g.monitorRoom + (rest.map fun v => v.category).sum ≤ W) (hd : decode c.code g.pc = .ok (.invokevirtual index, 3)) (hf : 2 ≤ R.frames) (hl : W + 28 ≤ R.locals) (hc : k ≤ R.cells) (hsl : n ≤ R.slots)
    (K : ∀ T', Sit p l e R s m args below meth c Z EL own vm T' h k n → G T' { g with pc := g.pc + 3, stack := .int (if cs = ds then 1 else 0) :: rest }) : G T g := by
  obtain ⟨z, hz1, hz2⟩ := hcs
  obtain ⟨kb, q1, q2, q3, q4, q5, q6⟩ := F
  obtain ⟨kb', r1, r2, r3, r4, r5, r6⟩ := F'
  have hcd := StrChars.Road.codOf (cs := cs) (n := cs.length) rfl (fun c hc => (q5 c hc).2)
  have hcd' := StrChars.Road.codOf (cs := ds) (n := ds.length) rfl (fun c hc => (r5 c hc).2)
  refine S.pureV hG hx (Q := fun v => (v = some (.int 1) ∧ cs = ds) ∨ (v = some (.int 0) ∧ ¬ cs = ds)) wl wd wsl wim (by decide) q1 (as := [.ref y]) (W := W) (StrChars.Road.eqW (W := W) S.warm hws wi q1 q2 q3 q4 hcd (up _ q5) q6 r1 r2 r3 r4 hcd' (up _ r5) r6 (hz1.ext S.old) hz2 hf hl) (ps := [.object "java/lang/Object"]) (r := some .boolean) (by decide +kernel) rfl hg hsize (rest := rest) hs hW hd hc hsl ?_
  rintro v T' S' (⟨rfl, hq⟩ | ⟨rfl, hq⟩)
  · have := K T' S'
    rw [if_pos hq] at this
    exact this
  · have := K T' S'
    rw [if_neg hq] at this
    exact this
theorem Sit.newStr (hG : Cl p e below G) (S : Sit p l e R s m args below meth c Z EL own vm T h k n) (hx : p.tables.exec = Jvm.exec) (hws : ∀ d ∈ StrChars.Road.words, d.before a0 Z = true) (hcs : Cmp Z) (wi : (Jvm.Cond.instantiable ST 4).before a0 Z = true) {index : Nat}
    (wl : (Jvm.Cond.methodLink own index ⟨"java/lang/String", "<init>", "([C)V"⟩).before a0 Z = true) (wim : (Jvm.Cond.instanceMethod ⟨"java/lang/String", "<init>", "([C)V"⟩).before a0 Z = true)
    {cs : List Int32} {kC : ClassId} {d v0 c0 : Value} {zn : Int32} (gx : Z.heap.size ≤ x) (sf : Safe Z EL vm h x) (E : Exa Z h x ST) (V : Fld Z h x ST "value" "[B" v0) (C : Fld Z h x ST "coder" "B" c0) (A : Arv Z h b kC .char zn (cs.map Value.int) d) (hN : zn = Int32.ofNat cs.length) (l0 : 0 < cs.length) (l2 : cs.length ≤ 4000) (hp : ∀ c ∈ cs, ¬ c < 0 ∧ ¬ (255 : Int32) < c)
    {nn : Nat} (hnn : cs.length ≤ nn) {g : JFrame} (hg : g.method = m) (hsize : g.locals.size = c.maxLocals) {rest : List Value} (hs : g.stack = .ref b :: .ref x :: rest) {W : Nat} (hW : 2 * g.monitorRoom + (rest.map fun v => v.category).sum ≤ W) (hd : decode c.code g.pc = .ok (.invokespecial index, 3)) (hf : 4 ≤ R.frames) (hl : W + 65 ≤ R.locals) (hc : k + 1 ≤ R.cells) (hsl : n + nn ≤ R.slots)
    (K : ∀ T' h' t, Sit p l e R s m args below meth c Z EL own vm T' h' (k + 1) (n + nn) → Stp Z EL vm h vm h' [x] → h.size ≤ t → Str Z h' x t cs → G T' { g with pc := g.pc + 3, stack := rest }) : G T g := by
  obtain ⟨z, hz1, hz2⟩ := hcs
  have ho := S.old
  obtain ⟨locs, X, eT, hZ, hown, ⟨j, hS, hj⟩, C0, N, O, hn⟩ := S
  obtain ⟨v, vm1, ⟨U, L', k', n'⟩, -, X', ⟨L, hQ, q1, q2, q3⟩, st⟩ := X.specialBack hx (y := (⟨"java/lang/String", "<init>", "([C)V"⟩ : MethodName)) rfl hown (mvT hZ wl) (mvT hZ wim) (mvT hZ (hws _ List.mem_cons_self)) (by decide) (StrChars.Road.backV (W := W) (bs := cs.map (fun c => c.toInt8.toInt32)) (n := cs.length) (n0 := Z.heap.size) hZ hws wi gx ho.1 E V C A (hz1.ext ho) hz2 rfl hN l0 l2 hp rfl hf hl) hg hsize (Steps.refl _) (a := x) (argsL := [.ref b]) (rest := rest) (lenOf (ps := [.array .char]) (r := none) (by decide +kernel) rfl) hs hW hd (fun _ _ => ⟨rfl, eT, hc, Nat.le_trans (Nat.add_le_add_left hnn _) hsl⟩)
  dsimp only [Pt.U, Pt.locs, Pt.cells, Pt.slots] at X' hQ q1 q2 q3 st
  subst q1 q2 q3
  obtain ⟨rfl, N', K', E', C', t, kb, t1, t2, t3, V', A'⟩ := hQ
  have J : Stp Z EL vm h vm U.heap [x] := Stp.of_keep K' (allS sf all0) C0.1
  subst hN
  refine hG.st (fun t q => st.trans q) (K U U.heap t ⟨_, { X' with same := X'.same.mono (Nat.le_refl _) (Nat.add_le_add_left hnn _) }, rfl, hZ, hown, ⟨j, hS, Nat.le_trans hj K'.1⟩, C0.trans J.2, N.app N', O, hn⟩ J t2 ⟨kb, E', V', C', A', hp, l2⟩)
end L2
end Jvm.Pilot.@@N@@.Own


namespace Jvm.Pilot.@@N@@
open Jvm Jvm.ClassFile Sem Op Lib Jvm.Free Jvm.Stand Jvm.LawKit Jvm.RoadKit Bundle Jvm.Pilot.@@N@@.Jvm.D
def own_Wld (Z : State) (a0 : Array Value) : Prop := (∀ d ∈ tables_1, d.before a0 Z = true) ∧ Own.Cmp Z ∧ Own.Sio Z ∧ EW Z a0 consts_1
set_option maxRecDepth 65536 in
theorem own_wbackV : ∀ d ∈ StrChars.Road.words, d ∈ tables_1 := by decide +kernel
set_option maxRecDepth 65536 in
theorem own_weqW : ∀ d ∈ StrChars.Road.wordsEq, d ∈ tables_1 := by decide +kernel
set_option maxRecDepth 65536 in
theorem own_wSA : ∀ d ∈ Bundle.stringAtoms, d ∈ tables_1 := by decide +kernel
def own_L0 : List Int32 := [104, 116, 116, 112, 58, 47, 47, 119, 119, 119, 46, 108, 111, 99, 46, 103, 111, 118, 47, 109, 111, 100, 115, 47, 118, 51]
def own_L1 : List Int32 := [104, 116, 116, 112, 58, 47, 47, 119, 119, 119, 46, 111, 112, 101, 110, 97, 114, 99, 104, 105, 118, 101, 115, 46, 111, 114, 103, 47, 79, 65, 73, 47, 50, 46, 48, 47]
def own_L2 : List Int32 := [104, 116, 116, 112, 58, 47, 47, 119, 119, 119, 46, 119, 51, 46, 111, 114, 103, 47, 49, 57, 57, 57, 47, 120, 108, 105, 110, 107]
def own_L3 : List Int32 := []
def own_L4 : List Int32 := [104, 116, 116, 112, 58, 47, 47, 119, 119, 119, 46, 108, 111, 99, 46, 103, 111, 118, 47, 109, 111, 100, 115, 47, 118, 51, 47]
def own_L5 : List Int32 := [104, 116, 116, 112, 58, 47, 47, 119, 119, 119, 46, 111, 112, 101, 110, 97, 114, 99, 104, 105, 118, 101, 115, 46, 111, 114, 103, 47, 79, 65, 73, 47, 50, 46, 48]
def own_M0 : List Int32 := [109, 111, 100, 115]
def own_M1 : List Int32 := [112, 104, 121, 115, 105, 99, 97, 108, 68, 101, 115, 99, 114, 105, 112, 116, 105, 111, 110]
def own_M2 : List Int32 := [109, 101, 116, 97, 100, 97, 116, 97]
def own_M3 : List Int32 := [97, 98, 111, 117, 116]
def own_M4 : List Int32 := [110, 111, 116, 101]
def own_M5 : List Int32 := [114, 101, 108, 97, 116, 101, 100, 73, 116, 101, 109]
def own_M6 : List Int32 := [99, 111, 112, 121, 73, 110, 102, 111, 114, 109, 97, 116, 105, 111, 110]
def own_M7 : List Int32 := [109, 111, 100, 115, 67, 111, 108, 108, 101, 99, 116, 105, 111, 110]
def own_Pn (kk it : Int32) (cs : List Int32) : Prop := (own_L0 = cs ↔ (kk = 0 ∧ ¬ it = 0)) ∧ (own_L1 = cs ↔ (kk = 1 ∧ ¬ it = 0))
def own_Pm (mm it : Int32) (cs : List Int32) : Prop := (own_M0 = cs ↔ (mm = 0 ∧ ¬ it = 0)) ∧ (own_M1 = cs ↔ (mm = 1 ∧ ¬ it = 0)) ∧ (own_M2 = cs ↔ (mm = 2 ∧ ¬ it = 0)) ∧ (own_M3 = cs ↔ (mm = 3 ∧ ¬ it = 0))
theorem own_no {A cs : List Int32} {P : Prop} (h : A.length ≠ cs.length) (hp : ¬ P) : A = cs ↔ P := ⟨fun q => absurd (congrArg List.length q) h, fun q => absurd q hp⟩
theorem own_set {A : List Int32} {p : Nat} (hp : p < A.length) (c : Int32) : A = A.set p c ↔ c = A.getD p 0 := by
  constructor
  · intro q
    have e : (A.set p c).getD p 0 = c := by simp [hp]
    rw [← q] at e; exact e.symm
  · intro q
    have e : A.getD p 0 = A[p] := by simp [hp]
    rw [q, e]; simp
theorem own_PnL {kk it : Int32} {cs : List Int32} {n : Nat} (h : cs.length = n) (h1 : 26 ≠ n) (h2 : 36 ≠ n) (k0 : ¬ kk = 0) (k1 : ¬ kk = 1) : own_Pn kk it cs :=
  ⟨own_no (by rw [h]; exact h1) (fun q => k0 q.1), own_no (by rw [h]; exact h2) (fun q => k1 q.1)⟩
theorem own_Pn0 : own_Pn 0 1 own_L0 := by unfold own_Pn; decide
theorem own_Pn1 : own_Pn 1 1 own_L1 := by unfold own_Pn; decide
theorem own_Pn0s {p : Nat} (hp : p < 26) {c it : Int32} (h : ¬ it = 0 ↔ c = own_L0.getD p 0) : own_Pn 0 it (own_L0.set p c) :=
  ⟨(own_set (A := own_L0) hp c).trans (by rw [h]; simp), own_no (by rw [List.length_set]; decide) (fun q => absurd q.1 (by decide))⟩
theorem own_Pn1s {p : Nat} (hp : p < 36) {c it : Int32} (h : ¬ it = 0 ↔ c = own_L1.getD p 0) : own_Pn 1 it (own_L1.set p c) :=
  ⟨own_no (by rw [List.length_set]; decide) (fun q => absurd q.1 (by decide)), (own_set (A := own_L1) hp c).trans (by rw [h]; simp)⟩
theorem own_note {p : Nat} {c : Int32} : ¬ own_M0 = own_M4.set p c := by
  match p with
  | 0 => intro q; exact absurd (congrArg (fun l => l.getD 2 0) q) (by show ¬ (100 : Int32) = 116; decide)
  | 1 => intro q; exact absurd (congrArg (fun l => l.getD 2 0) q) (by show ¬ (100 : Int32) = 116; decide)
  | 2 => intro q; exact absurd (congrArg (fun l => l.getD 0 0) q) (by show ¬ (109 : Int32) = 110; decide)
  | p + 3 => intro q; exact absurd (congrArg (fun l => l.getD 0 0) q) (by show ¬ (109 : Int32) = 110; decide)
theorem own_Pm0 : own_Pm 0 1 own_M0 := by unfold own_Pm; decide
theorem own_Pm0s {p : Nat} (hp : p < 4) {c it : Int32} (h : ¬ it = 0 ↔ c = own_M0.getD p 0) : own_Pm 0 it (own_M0.set p c) :=
  ⟨(own_set (A := own_M0) hp c).trans (by rw [h]; simp), own_no (by rw [List.length_set]; decide) (fun q => absurd q.1 (by decide)), own_no (by rw [List.length_set]; decide) (fun q => absurd q.1 (by decide)), own_no (by rw [List.length_set]; decide) (fun q => absurd q.1 (by decide))⟩
theorem own_Pm1 : own_Pm 1 1 own_M1 := by unfold own_Pm; decide
theorem own_Pm1s {p : Nat} (hp : p < 19) {c it : Int32} (h : ¬ it = 0 ↔ c = own_M1.getD p 0) : own_Pm 1 it (own_M1.set p c) :=
  ⟨own_no (by rw [List.length_set]; decide) (fun q => absurd q.1 (by decide)), (own_set (A := own_M1) hp c).trans (by rw [h]; simp), own_no (by rw [List.length_set]; decide) (fun q => absurd q.1 (by decide)), own_no (by rw [List.length_set]; decide) (fun q => absurd q.1 (by decide))⟩
theorem own_Pm2 : own_Pm 2 1 own_M2 := by unfold own_Pm; decide
theorem own_Pm2s {p : Nat} (hp : p < 8) {c it : Int32} (h : ¬ it = 0 ↔ c = own_M2.getD p 0) : own_Pm 2 it (own_M2.set p c) :=
  ⟨own_no (by rw [List.length_set]; decide) (fun q => absurd q.1 (by decide)), own_no (by rw [List.length_set]; decide) (fun q => absurd q.1 (by decide)), (own_set (A := own_M2) hp c).trans (by rw [h]; simp), own_no (by rw [List.length_set]; decide) (fun q => absurd q.1 (by decide))⟩
theorem own_Pm3 : own_Pm 3 1 own_M3 := by unfold own_Pm; decide
theorem own_Pm3s {p : Nat} (hp : p < 5) {c it : Int32} (h : ¬ it = 0 ↔ c = own_M3.getD p 0) : own_Pm 3 it (own_M3.set p c) :=
  ⟨own_no (by rw [List.length_set]; decide) (fun q => absurd q.1 (by decide)), own_no (by rw [List.length_set]; decide) (fun q => absurd q.1 (by decide)), own_no (by rw [List.length_set]; decide) (fun q => absurd q.1 (by decide)), (own_set (A := own_M3) hp c).trans (by rw [h]; simp)⟩
theorem own_Pm4s {p : Nat} {c it : Int32} : own_Pm 4 it (own_M4.set p c) :=
  ⟨⟨fun q => absurd q own_note, fun q => absurd q.1 (by decide)⟩, own_no (by rw [List.length_set]; decide) (fun q => absurd q.1 (by decide)), own_no (by rw [List.length_set]; decide) (fun q => absurd q.1 (by decide)), own_no (by rw [List.length_set]; decide) (fun q => absurd q.1 (by decide))⟩
theorem own_Pm4 {it : Int32} : own_Pm 4 it own_M4 := ⟨⟨fun q => absurd q (by decide), fun q => absurd q.1 (by decide)⟩, ⟨fun q => absurd q (by decide), fun q => absurd q.1 (by decide)⟩, ⟨fun q => absurd q (by decide), fun q => absurd q.1 (by decide)⟩, ⟨fun q => absurd q (by decide), fun q => absurd q.1 (by decide)⟩⟩
theorem own_Pm5s {p : Nat} {c it : Int32} : own_Pm 5 it (own_M5.set p c) :=
  ⟨own_no (by rw [List.length_set]; decide) (fun q => absurd q.1 (by decide)), own_no (by rw [List.length_set]; decide) (fun q => absurd q.1 (by decide)), own_no (by rw [List.length_set]; decide) (fun q => absurd q.1 (by decide)), own_no (by rw [List.length_set]; decide) (fun q => absurd q.1 (by decide))⟩
theorem own_Pm5 {it : Int32} : own_Pm 5 it own_M5 := ⟨⟨fun q => absurd q (by decide), fun q => absurd q.1 (by decide)⟩, ⟨fun q => absurd q (by decide), fun q => absurd q.1 (by decide)⟩, ⟨fun q => absurd q (by decide), fun q => absurd q.1 (by decide)⟩, ⟨fun q => absurd q (by decide), fun q => absurd q.1 (by decide)⟩⟩
theorem own_Pm6s {p : Nat} {c it : Int32} : own_Pm 6 it (own_M6.set p c) :=
  ⟨own_no (by rw [List.length_set]; decide) (fun q => absurd q.1 (by decide)), own_no (by rw [List.length_set]; decide) (fun q => absurd q.1 (by decide)), own_no (by rw [List.length_set]; decide) (fun q => absurd q.1 (by decide)), own_no (by rw [List.length_set]; decide) (fun q => absurd q.1 (by decide))⟩
theorem own_Pm6 {it : Int32} : own_Pm 6 it own_M6 := ⟨⟨fun q => absurd q (by decide), fun q => absurd q.1 (by decide)⟩, ⟨fun q => absurd q (by decide), fun q => absurd q.1 (by decide)⟩, ⟨fun q => absurd q (by decide), fun q => absurd q.1 (by decide)⟩, ⟨fun q => absurd q (by decide), fun q => absurd q.1 (by decide)⟩⟩
theorem own_Pm7s {p : Nat} {c it : Int32} : own_Pm 7 it (own_M7.set p c) :=
  ⟨own_no (by rw [List.length_set]; decide) (fun q => absurd q.1 (by decide)), own_no (by rw [List.length_set]; decide) (fun q => absurd q.1 (by decide)), own_no (by rw [List.length_set]; decide) (fun q => absurd q.1 (by decide)), own_no (by rw [List.length_set]; decide) (fun q => absurd q.1 (by decide))⟩
theorem own_Pm7 {it : Int32} : own_Pm 7 it own_M7 := ⟨⟨fun q => absurd q (by decide), fun q => absurd q.1 (by decide)⟩, ⟨fun q => absurd q (by decide), fun q => absurd q.1 (by decide)⟩, ⟨fun q => absurd q (by decide), fun q => absurd q.1 (by decide)⟩, ⟨fun q => absurd q (by decide), fun q => absurd q.1 (by decide)⟩⟩
theorem own_get {cs : List Int32} {dv : Value} {i : Nat} (h : i < cs.length) : (cs.map Value.int).getD i dv = .int (cs.getD i 0) := by simp [h]
theorem own_nar {y : Int32} (h : ¬ y < 0 ∧ ¬ (255 : Int32) < y) : nar .char y = y := by
  have q := c_i2c y
  have e0 : (0 : Int32).toInt = 0 := rfl
  have e255 : (255 : Int32).toInt = 255 := rfl
  simp only [Int32.lt_iff_toInt_lt, e0, e255] at h
  have e : (nar .char y).toInt = y.toInt := by
    show y.toUInt32.toUInt16.toUInt32.toInt32.toInt = _
    omega
  exact Int32.toInt_inj.mp e
theorem own_a255 (x : Int32) : ¬ ((x &&& (255 : Int32)).toUInt32.toUInt16.toUInt32.toInt32) < 0 ∧ ¬ (255 : Int32) < ((x &&& (255 : Int32)).toUInt32.toUInt16.toUInt32.toInt32) := by
  have h := Own.and255 x
  have e : nar .char ((x &&& (255 : Int32)).toUInt32.toUInt16.toUInt32.toInt32) = (x &&& (255 : Int32)).toUInt32.toUInt16.toUInt32.toInt32 := by
    rw [i2c_mask]; exact i2c_mask x
  rwa [e] at h
theorem own_setr {cs : List Int32} {y : Int32} {i : Nat} (hr : ∀ c ∈ cs, ¬ c < 0 ∧ ¬ (255 : Int32) < c) (hy : ¬ y < 0 ∧ ¬ (255 : Int32) < y) : ∀ c ∈ cs.set i y, ¬ c < 0 ∧ ¬ (255 : Int32) < c := fun c hc => by
  rcases List.mem_or_eq_of_mem_set hc with q | rfl
  · exact hr c q
  · exact hy
/-- an index: the rest by a positive length -/
theorem own_ix (x n : Int32) (hn : 0 < n.toInt) : ¬ ((x &&& (2147483647 : Int32)) % n) < 0 ∧ ((x &&& (2147483647 : Int32)) % n) < n := by
  have h1 := c_and x 2147483647 (by decide)
  have h2 := (c_iremV (x &&& 2147483647) n).1 h1.1 hn
  have e0 : (0 : Int32).toInt = 0 := rfl
  simp only [Int32.lt_iff_toInt_lt, e0]
  omega
theorem own_ixn {j n : Int32} {k : Nat} (h : ¬ j < 0 ∧ j < n) (e : n.toInt = k) : j.toNatClampNeg < k := by
  have e0 : (0 : Int32).toInt = 0 := rfl
  simp only [Int32.lt_iff_toInt_lt, e0] at h
  simp only [Int32.toNatClampNeg]
  omega
theorem own_five {x : Int32} (h0 : ¬ (((x.toUInt32 >>> ((1 : Int32) &&& 31).toUInt32).toInt32) % (6 : Int32)) = 0) (h1 : ¬ (((x.toUInt32 >>> ((1 : Int32) &&& 31).toUInt32).toInt32) % (6 : Int32)) = 1) (h2 : ¬ (((x.toUInt32 >>> ((1 : Int32) &&& 31).toUInt32).toInt32) % (6 : Int32)) = 2) (h3 : ¬ (((x.toUInt32 >>> ((1 : Int32) &&& 31).toUInt32).toInt32) % (6 : Int32)) = 3) (h4 : ¬ (((x.toUInt32 >>> ((1 : Int32) &&& 31).toUInt32).toInt32) % (6 : Int32)) = 4) : (((x.toUInt32 >>> ((1 : Int32) &&& 31).toUInt32).toInt32) % (6 : Int32)) = 5 := by
  have q := c_iushr x 1 1 (by decide) (by decide)
  obtain ⟨y, ey⟩ : ∃ y, y = (x.toUInt32 >>> ((1 : Int32) &&& 31).toUInt32).toInt32 := ⟨_, rfl⟩
  rw [← ey] at q h0 h1 h2 h3 h4 ⊢
  have r := rng32 x
  have u := (c_irem y 6 6 rfl).1 (by omega)
  have e0 : (0 : Int32).toInt = 0 := rfl
  have e1 : (1 : Int32).toInt = 1 := rfl
  have e2 : (2 : Int32).toInt = 2 := rfl
  have e3 : (3 : Int32).toInt = 3 := rfl
  have e4 : (4 : Int32).toInt = 4 := rfl
  have e5 : (5 : Int32).toInt = 5 := rfl
  rw [← Int32.toInt_inj] at h0 h1 h2 h3 h4 ⊢
  omega
theorem own_seven {n : Int32} (h0 : ¬ (n &&& (7 : Int32)) = 0) (h1 : ¬ (n &&& (7 : Int32)) = 1) (h2 : ¬ (n &&& (7 : Int32)) = 2) (h3 : ¬ (n &&& (7 : Int32)) = 3) (h4 : ¬ (n &&& (7 : Int32)) = 4) (h5 : ¬ (n &&& (7 : Int32)) = 5) (h6 : ¬ (n &&& (7 : Int32)) = 6) : (n &&& (7 : Int32)) = 7 := by
  have q := c_and n 7 (by decide)
  obtain ⟨a, ea⟩ : ∃ a, a = n &&& (7 : Int32) := ⟨_, rfl⟩
  rw [← ea] at q h0 h1 h2 h3 h4 h5 h6 ⊢
  have e0 : (0 : Int32).toInt = 0 := rfl
  have e1 : (1 : Int32).toInt = 1 := rfl
  have e2 : (2 : Int32).toInt = 2 := rfl
  have e3 : (3 : Int32).toInt = 3 := rfl
  have e4 : (4 : Int32).toInt = 4 := rfl
  have e5 : (5 : Int32).toInt = 5 := rfl
  have e6 : (6 : Int32).toInt = 6 := rfl
  have e7 : (7 : Int32).toInt = 7 := rfl
  rw [← Int32.toInt_inj] at h0 h1 h2 h3 h4 h5 h6 ⊢
  omega
theorem own_fiveB {kk x : Int32} (e : kk = (((x.toUInt32 >>> ((1 : Int32) &&& 31).toUInt32).toInt32) % (6 : Int32))) (h0 : ¬ kk = 0) (h1 : ¬ kk = 1) (h2 : ¬ kk = 2) (h3 : ¬ kk = 3) (h4 : ¬ kk = 4) : kk = 5 := by subst e; exact own_five h0 h1 h2 h3 h4
theorem own_sevenB {mm n : Int32} (e : mm = (n &&& (7 : Int32))) (h0 : ¬ mm = 0) (h1 : ¬ mm = 1) (h2 : ¬ mm = 2) (h3 : ¬ mm = 3) (h4 : ¬ mm = 4) (h5 : ¬ mm = 5) (h6 : ¬ mm = 6) : mm = 7 := by subst e; exact own_seven h0 h1 h2 h3 h4 h5 h6
theorem own_pn425291 : plainFor (⟨"java/lang/String", "<init>", "([CIILjava/lang/Void;)V"⟩ : MethodName) = true := by first | exact plainFor_of_name (by first | (simp [plainName, overriddenIn]; done) | decide +kernel) | decide +kernel
theorem own_d0_0 : decode jdk_42_method_149_code 0 = .ok (.aload_n 0, 1) := by decide +kernel
theorem own_d0_1 : decode jdk_42_method_149_code 1 = .ok (.invokespecial 1, 3) := by decide +kernel
theorem own_d0_4 : decode jdk_42_method_149_code 4 = .ok (.iload_n 3, 1) := by decide +kernel
theorem own_d0_5 : decode jdk_42_method_149_code 5 = .ok (.ifCond .ne 22, 3) := by decide +kernel
theorem own_d0_8 : decode jdk_42_method_149_code 8 = .ok (.aload_n 0, 1) := by decide +kernel
theorem own_d0_9 : decode jdk_42_method_149_code 9 = .ok (.ldc 7, 2) := by decide +kernel
theorem own_d0_11 : decode jdk_42_method_149_code 11 = .ok (.getfield 9, 3) := by decide +kernel
theorem own_d0_14 : decode jdk_42_method_149_code 14 = .ok (.putfield 9, 3) := by decide +kernel
theorem own_d0_17 : decode jdk_42_method_149_code 17 = .ok (.aload_n 0, 1) := by decide +kernel
theorem own_d0_18 : decode jdk_42_method_149_code 18 = .ok (.ldc 7, 2) := by decide +kernel
theorem own_d0_20 : decode jdk_42_method_149_code 20 = .ok (.getfield 15, 3) := by decide +kernel
theorem own_d0_23 : decode jdk_42_method_149_code 23 = .ok (.putfield 15, 3) := by decide +kernel
theorem own_d0_26 : decode jdk_42_method_149_code 26 = .ok (.return_, 1) := by decide +kernel
theorem own_ef_own_emp4 (m : MethodId) (x : Addr) (b : Addr) : entryFrame m #[(.ref x), (.ref b), (.int 0), (.int 0), .null] 6 = mkF m 0 #[rv x, rv b, iv 0, iv 0, .val .null, .unset] [] := by first | (simp [entryFrame, mkF, argsToLocals, Value.category]; done) | rfl
set_option maxRecDepth 65536 in
set_option maxHeartbeats 40000000 in
theorem own_emp4 (l : Launch) (Z : State) (a0 : Array Value) (H : own_Wld Z a0) {cw : List Jvm.Cond} (x : Addr) (b : Addr) (h0 : Heap) (O0 : Ext Z.heap h0) (g_x : Z.heap.size ≤ x) (E_x : Exa Z h0 x "java/lang/String") (Fv : Fld Z h0 x "java/lang/String" "value" "[B" .null) (Fc : Fld Z h0 x "java/lang/String" "coder" "B" (.int 0)) :
    Own.Con l Z consts_1 (⟨"java/lang/String", "<init>", "([CIILjava/lang/Void;)V"⟩ : MethodName) jdk_42_method_149_code 6 none cw ({ frames := 1, cells := 4, slots := 8, locals := 12 } : Room) #[(.ref x), (.ref b), (.int 0), (.int 0), .null] h0 (fun v h => Keep h0 h [x] ∧ v = none ∧ ∃ t, Own.Str Z h x t []) := by
  have hw := H.1
  have hW := fun (i : Nat) (w : Jvm.Cond) (e : tables_1[i]? = some w) => hw w (List.mem_of_getElem? e)
  have hCm := H.2.1
  have hSi := H.2.2.1
  have hEL := H.2.2.2
  have hWs : ∀ d ∈ StrChars.Road.words, d.before a0 Z = true := fun d hd => hw d (own_wbackV d hd)
  have hWe : ∀ d ∈ StrChars.Road.wordsEq, d.before a0 Z = true := fun d hd => hw d (own_weqW d hd)
  have hSA : ∀ d ∈ Bundle.stringAtoms, d.before a0 Z = true := fun d hd => hw d (own_wSA d hd)
  refine Own.Con.of own_pn425291 hEL O0 ?_
  intro p e s m below meth c T0 G vm0 hx hby hml hret hnm hG hR S0
  have hz : ∀ L : Array Slot, L.size = 6 → L.size = c.maxLocals := fun L q => q.trans hml.symm
  rw [own_ef_own_emp4]
  show G T0 (mkF m 0 #[rv x, rv b, iv 0, iv 0, .val .null, .unset] [])
  have sf_x : Safe Z consts_1 vm0 h0 x := Own.Safe.blank S0.warm.alike E_x Fv (hW 7 _ rfl)
  refine hG.st (fun t q => XS.aloadN S0.here hx rfl (hb hby own_d0_0) rfl rfl q) ?_
  show G T0 (mkF m 1 #[rv x, rv b, iv 0, iv 0, .val .null, .unset] [(.ref x)])
  refine Own.Sit.initO hG S0 hx (hW 16 _ rfl) (hW 17 _ rfl) (hW 18 _ rfl) rfl (hz _ rfl) rfl (hb hby own_d0_1) (by decide) (W := 0) (Own.hw0 rfl rfl) (by decide) (fun T1 S1 => ?_)
  refine hG.st (fun t q => XS.iloadN S1.here hx rfl (hb hby own_d0_4) rfl (XS.ifNo S1.here hx rfl (hb hby own_d0_5) rfl ((if0 _ _).trans (teq (by decide : (0 : Int32) = (0 : Int32))).2) (XS.aloadN S1.here hx rfl (hb hby own_d0_8) rfl rfl q))) ?_
  show G T1 (mkF m 9 #[rv x, rv b, iv 0, iv 0, .val .null, .unset] [(.ref x)])
  refine Own.Sit.ldc hG S1 hx hEL (hW 59 _ rfl) hSA (by decide) (cs := ([] : List Int32)) ⟨by decide, by decide⟩ (by decide) (by decide) rfl (hb hby own_d0_9) (nn := 0) (by decide) (by decide) (by decide) (by decide) (fun vm2 T2 h2 x2 y2 S2 J2 St2 L2 => ?_)
  show G T2 (mkF m 11 #[rv x, rv b, iv 0, iv 0, .val .null, .unset] [(.ref x2), (.ref x)])
  obtain ⟨kb3, Ea3, Fa3, Fb3, Ab3, -, -⟩ := id St2
  refine Own.Sit.getF hG S2 hx (host := "") (Or.inl (hW 33 _ rfl)) Via.refl Fa3 rfl rfl (hb hby own_d0_11) (fun T4 S4 => ?_)
  have F5 := J2.fld Fv nin0
  have E6 := J2.exa E_x
  have Sf7 := J2.safe E_x.lt sf_x
  have F9 := J2.fld Fc nin0
  show G T4 (mkF m 14 #[rv x, rv b, iv 0, iv 0, .val .null, .unset] [(.ref y2), (.ref x)])
  refine Own.Sit.putF hG S4 hx (host := "") (Or.inl (hW 33 _ rfl)) Via.refl F5 E6 (Or.inr ⟨(hW 34 _ rfl), rfl, hnm⟩) (hW 7 _ rfl) (ty := (.array .byte)) (by decide) rfl rfl g_x Sf7 rfl rfl (hb hby own_d0_14) (fun T8 h8 S8 J8 W8 F8 => ?_)
  have F10 := Fld.other W8 F9 (Or.inr (slot_ne (Or.inr (hW 32 _ rfl)) (Or.inr (hW 34 _ rfl)) (by decide) (t := .byte) (by decide) (t' := (.array .byte)) (by decide)))
  refine hG.st (fun t q => XS.aloadN S8.here hx rfl (hb hby own_d0_17) rfl rfl q) ?_
  show G T8 (mkF m 18 #[rv x, rv b, iv 0, iv 0, .val .null, .unset] [(.ref x)])
  refine Own.Sit.ldc hG S8 hx hEL (hW 59 _ rfl) hSA (by decide) (cs := ([] : List Int32)) ⟨by decide, by decide⟩ (by decide) (by decide) rfl (hb hby own_d0_18) (nn := 0) (by decide) (by decide) (by decide) (by decide) (fun vm11 T11 h11 x11 y11 S11 J11 St11 L11 => ?_)
  show G T11 (mkF m 20 #[rv x, rv b, iv 0, iv 0, .val .null, .unset] [(.ref x11), (.ref x)])
  obtain ⟨kb12, Ea12, Fa12, Fb12, Ab12, -, -⟩ := id St11
  refine Own.Sit.getF hG S11 hx (host := "") (Or.inl (hW 31 _ rfl)) Via.refl Fb12 rfl rfl (hb hby own_d0_20) (fun T13 S13 => ?_)
  have F14 := J11.fld F10 nin0
  have J15 : Own.Stp Z consts_1 vm2 h2 vm11 h11 [x] := Own.Stp.trans J8 J11 (allS (List.mem_of_getElem? (i := 0) rfl) (all0)) all0
  have E16 := J15.exa E6
  have Sf17 := J15.safe (Nat.lt_of_lt_of_le E_x.lt J2.1.1) Sf7
  have F19 := J11.fld F8 nin0
  show G T13 (mkF m 23 #[rv x, rv b, iv 0, iv 0, .val .null, .unset] [(.int 0), (.ref x)])
  refine Own.Sit.putF hG S13 hx (host := "") (Or.inl (hW 31 _ rfl)) Via.refl F14 E16 (Or.inr ⟨(hW 32 _ rfl), rfl, hnm⟩) (hW 7 _ rfl) (ty := .byte) (by decide) rfl rfl g_x Sf17 rfl rfl (hb hby own_d0_23) (fun T18 h18 S18 J18 W18 F18 => ?_)
  have F20 := Fld.other W18 F19 (Or.inr (slot_ne (Or.inr (hW 34 _ rfl)) (Or.inr (hW 32 _ rfl)) (by decide) (t := (.array .byte)) (by decide) (t' := .byte) (by decide)))
  have E21 := J18.exa E16
  have J22 : Own.Stp Z consts_1 vm2 h2 vm11 h18 [x] := Own.Stp.trans J15 J18 (allS (List.mem_of_getElem? (i := 0) rfl) (all0)) (allS (Or.inl (List.mem_of_getElem? (i := 0) rfl)) all0)
  have V23 := J22.arv Ab3 (ninS (Ne.symm (Exa.neArv (J2.exa E_x) Ab3 (hW 7 _ rfl))) nin0)
  have J24 : Own.Stp Z consts_1 vm0 h0 vm2 h8 [x] := Own.Stp.trans J2 J8 (all0) (allS (Or.inl (List.mem_of_getElem? (i := 0) rfl)) all0)
  have J25 : Own.Stp Z consts_1 vm0 h0 vm11 h11 [x] := Own.Stp.trans J24 J11 (allS (List.mem_of_getElem? (i := 0) rfl) (all0)) all0
  have J26 : Own.Stp Z consts_1 vm0 h0 vm11 h18 [x] := Own.Stp.trans J25 J18 (allS (List.mem_of_getElem? (i := 0) rfl) (all0)) (allS (Or.inl (List.mem_of_getElem? (i := 0) rfl)) all0)
  show G T18 (mkF m 26 #[rv x, rv b, iv 0, iv 0, .val .null, .unset] [])
  exact Own.Sit.ret0 hR S18 hx hret (hb hby own_d0_26) (by decide) (by decide) ⟨J26.1, rfl, y2, kb3, E21, F20, F18, V23, by decide, by decide⟩
theorem own_pnc164e3 : plainFor (⟨"java/lang/String", "<init>", "([C)V"⟩ : MethodName) = true := by first | exact plainFor_of_name (by first | (simp [plainName, overriddenIn]; done) | decide +kernel) | decide +kernel
theorem own_pd2d3984 : parseMethodDescriptor "([CIILjava/lang/Void;)V" = some ⟨[(.array .char), .int, .int, (.object "java/lang/Void")], none⟩ := by decide +kernel
theorem own_d1_0 : decode jdk_42_method_3_code 0 = .ok (.aload_n 0, 1) := by decide +kernel
theorem own_d1_1 : decode jdk_42_method_3_code 1 = .ok (.aload_n 1, 1) := by decide +kernel
theorem own_d1_2 : decode jdk_42_method_3_code 2 = .ok (.iconst 0, 1) := by decide +kernel
theorem own_d1_3 : decode jdk_42_method_3_code 3 = .ok (.aload_n 1, 1) := by decide +kernel
theorem own_d1_4 : decode jdk_42_method_3_code 4 = .ok (.arraylength, 1) := by decide +kernel
theorem own_d1_5 : decode jdk_42_method_3_code 5 = .ok (.aconst_null, 1) := by decide +kernel
theorem own_d1_6 : decode jdk_42_method_3_code 6 = .ok (.invokespecial 27, 3) := by decide +kernel
theorem own_d1_9 : decode jdk_42_method_3_code 9 = .ok (.return_, 1) := by decide +kernel
theorem own_ef_own_emp1 (m : MethodId) (x : Addr) (b : Addr) : entryFrame m #[(.ref x), (.ref b)] 2 = mkF m 0 #[rv x, rv b] [] := by first | (simp [entryFrame, mkF, argsToLocals, Value.category]; done) | rfl
set_option maxRecDepth 65536 in
set_option maxHeartbeats 40000000 in
theorem own_emp1 (l : Launch) (Z : State) (a0 : Array Value) (H : own_Wld Z a0) {cw : List Jvm.Cond} (x : Addr) (b : Addr) (h0 : Heap) (O0 : Ext Z.heap h0) (g_x : Z.heap.size ≤ x) (E_x : Exa Z h0 x "java/lang/String") (Fv : Fld Z h0 x "java/lang/String" "value" "[B" .null) (Fc : Fld Z h0 x "java/lang/String" "coder" "B" (.int 0)) {kc : ClassId} {dv : Value} (A_b : Arv Z h0 b kc .char (0 : Int32) [] dv) :
    Own.Con l Z consts_1 (⟨"java/lang/String", "<init>", "([C)V"⟩ : MethodName) jdk_42_method_3_code 2 none cw ({ frames := 2, cells := 4, slots := 8, locals := 29 } : Room) #[(.ref x), (.ref b)] h0 (fun v h => Keep h0 h [x] ∧ v = none ∧ ∃ t, Own.Str Z h x t []) := by
  have hw := H.1
  have hW := fun (i : Nat) (w : Jvm.Cond) (e : tables_1[i]? = some w) => hw w (List.mem_of_getElem? e)
  have hCm := H.2.1
  have hSi := H.2.2.1
  have hEL := H.2.2.2
  have hWs : ∀ d ∈ StrChars.Road.words, d.before a0 Z = true := fun d hd => hw d (own_wbackV d hd)
  have hWe : ∀ d ∈ StrChars.Road.wordsEq, d.before a0 Z = true := fun d hd => hw d (own_weqW d hd)
  have hSA : ∀ d ∈ Bundle.stringAtoms, d.before a0 Z = true := fun d hd => hw d (own_wSA d hd)
  refine Own.Con.of own_pnc164e3 hEL O0 ?_
  intro p e s m below meth c T0 G vm0 hx hby hml hret hnm hG hR S0
  have hz : ∀ L : Array Slot, L.size = 2 → L.size = c.maxLocals := fun L q => q.trans hml.symm
  rw [own_ef_own_emp1]
  show G T0 (mkF m 0 #[rv x, rv b] [])
  have sf_x : Safe Z consts_1 vm0 h0 x := Own.Safe.blank S0.warm.alike E_x Fv (hW 7 _ rfl)
  refine hG.st (fun t q => XS.aloadN S0.here hx rfl (hb hby own_d1_0) rfl rfl (XS.aloadN S0.here hx rfl (hb hby own_d1_1) rfl rfl (XS.iconst S0.here hx rfl (hb hby own_d1_2) (XS.aloadN S0.here hx rfl (hb hby own_d1_3) rfl rfl q)))) ?_
  show G T0 (mkF m 4 #[rv x, rv b] [(.ref b), (.int 0), (.ref b), (.ref x)])
  refine Own.Sit.arraylength hG S0 hx A_b rfl rfl (hb hby own_d1_4) ?_
  show G T0 (mkF m 5 #[rv x, rv b] [(.int 0), (.int 0), (.ref b), (.ref x)])
  refine hG.st (fun t q => XS.aconstNull S0.here hx rfl (hb hby own_d1_5) q) ?_
  show G T0 (mkF m 6 #[rv x, rv b] [.null, (.int 0), (.int 0), (.ref b), (.ref x)])
  refine Own.Sit.callI hG S0 hx hEL rfl (as := [(.ref b), (.int 0), (.int 0), .null]) (hW 12 _ rfl) (hW 13 _ rfl) (hW 8 _ rfl) (hW 15 _ rfl) (by decide) (own_emp4 l Z a0 H x b h0 S0.old g_x E_x Fv Fc) own_pd2d3984 rfl rfl (hz _ rfl) (rest := []) rfl (W := 0) (Own.hw0 rfl rfl) (hb hby own_d1_6) (by decide) (by decide) (by decide) (by decide) (fun v27 vm27 T27 h27 S27 C27 q27 => ?_)
  obtain ⟨K27, rfl, y27, St27⟩ := q27
  have J27 : Own.Stp Z consts_1 vm0 h0 vm27 h27 [x] := ⟨K27, C27⟩
  show G T27 (mkF m 9 #[rv x, rv b] [])
  exact Own.Sit.ret0 hR S27 hx hret (hb hby own_d1_9) (by decide) (by decide) ⟨J27.1, rfl, _, St27⟩
theorem own_nb (c : Int32) : nar .byte (c.toInt8.toInt32) = c.toInt8.toInt32 := by show c.toInt8.toInt32.toInt8.toInt32 = _; simp
theorem own_pnb7c2a2 : plainFor (⟨"java/lang/StringLatin1", "canEncode", "(C)Z"⟩ : MethodName) = true := by first | exact plainFor_of_name (by first | (simp [plainName, overriddenIn]; done) | decide +kernel) | decide +kernel
theorem own_d2_0 : decode jdk_43_method_3_code 0 = .ok (.iload_n 0, 1) := by decide +kernel
theorem own_d2_1 : decode jdk_43_method_3_code 1 = .ok (.sipush 255, 3) := by decide +kernel
theorem own_d2_4 : decode jdk_43_method_3_code 4 = .ok (.if_icmp .gt 7, 3) := by decide +kernel
theorem own_d2_7 : decode jdk_43_method_3_code 7 = .ok (.iconst 1, 1) := by decide +kernel
theorem own_d2_8 : decode jdk_43_method_3_code 8 = .ok (.goto 4, 3) := by decide +kernel
theorem own_d2_12 : decode jdk_43_method_3_code 12 = .ok (.ireturn, 1) := by decide +kernel
theorem own_ef_own_canenc (m : MethodId) (c1 : Int32) : entryFrame m #[(.int c1)] 1 = mkF m 0 #[iv c1] [] := by first | (simp [entryFrame, mkF, argsToLocals, Value.category]; done) | rfl
set_option maxRecDepth 65536 in
set_option maxHeartbeats 40000000 in
theorem own_canenc (l : Launch) (Z : State) (a0 : Array Value) (H : own_Wld Z a0) {cw : List Jvm.Cond} (c1 : Int32) (h0 : Heap) (O0 : Ext Z.heap h0) (hc : ¬ (255 : Int32) < c1) :
    Own.Con l Z consts_1 (⟨"java/lang/StringLatin1", "canEncode", "(C)Z"⟩ : MethodName) jdk_43_method_3_code 1 (some .boolean) cw ({ frames := 0, cells := 0, slots := 0, locals := 0 } : Room) #[(.int c1)] h0 (fun v h => Keep h0 h [] ∧ v = some (.int 1)) := by
  have hw := H.1
  have hW := fun (i : Nat) (w : Jvm.Cond) (e : tables_1[i]? = some w) => hw w (List.mem_of_getElem? e)
  have hCm := H.2.1
  have hSi := H.2.2.1
  have hEL := H.2.2.2
  have hWs : ∀ d ∈ StrChars.Road.words, d.before a0 Z = true := fun d hd => hw d (own_wbackV d hd)
  have hWe : ∀ d ∈ StrChars.Road.wordsEq, d.before a0 Z = true := fun d hd => hw d (own_weqW d hd)
  have hSA : ∀ d ∈ Bundle.stringAtoms, d.before a0 Z = true := fun d hd => hw d (own_wSA d hd)
  refine Own.Con.of own_pnb7c2a2 hEL O0 ?_
  intro p e s m below meth c T0 G vm0 hx hby hml hret hnm hG hR S0
  have hz : ∀ L : Array Slot, L.size = 1 → L.size = c.maxLocals := fun L q => q.trans hml.symm
  rw [own_ef_own_canenc]
  show G T0 (mkF m 0 #[iv c1] [])
  refine hG.st (fun t q => XS.iloadN S0.here hx rfl (hb hby own_d2_0) rfl (XS.sipush S0.here hx rfl (hb hby own_d2_1) (XS.icmpNo S0.here hx rfl (hb hby own_d2_4) rfl (flt (hc : ¬ ((255 : Int32) < c1))).2.2.1 (XS.iconst S0.here hx rfl (hb hby own_d2_7) (XS.goto S0.here hx rfl (pc0 := 8) (pc' := 12) rfl (hb hby own_d2_8) (by decide) (by decide) q))))) ?_
  show G T0 (mkF m 12 #[iv c1] [(.int 1)])
  exact Own.Sit.retN hR S0 hx (t := .boolean) hret (by simp) (hb hby own_d2_12) (by decide) (by decide) ⟨(Keep.refl _ _), rfl⟩
theorem own_pn1c965a : plainFor (⟨"java/lang/StringLatin1", "toBytes", "(C)[B"⟩ : MethodName) = true := by first | exact plainFor_of_name (by first | (simp [plainName, overriddenIn]; done) | decide +kernel) | decide +kernel
theorem own_d3_0 : decode jdk_43_method_46_code 0 = .ok (.iconst 1, 1) := by decide +kernel
theorem own_d3_1 : decode jdk_43_method_46_code 1 = .ok (.newarray .byte, 2) := by decide +kernel
theorem own_d3_3 : decode jdk_43_method_46_code 3 = .ok (.dup, 1) := by decide +kernel
theorem own_d3_4 : decode jdk_43_method_46_code 4 = .ok (.iconst 0, 1) := by decide +kernel
theorem own_d3_5 : decode jdk_43_method_46_code 5 = .ok (.iload_n 0, 1) := by decide +kernel
theorem own_d3_6 : decode jdk_43_method_46_code 6 = .ok (.i2b, 1) := by decide +kernel
theorem own_d3_7 : decode jdk_43_method_46_code 7 = .ok (.bastore, 1) := by decide +kernel
theorem own_d3_8 : decode jdk_43_method_46_code 8 = .ok (.areturn, 1) := by decide +kernel
theorem own_ef_own_tobytes (m : MethodId) (c1 : Int32) : entryFrame m #[(.int c1)] 1 = mkF m 0 #[iv c1] [] := by first | (simp [entryFrame, mkF, argsToLocals, Value.category]; done) | rfl
set_option maxRecDepth 65536 in
set_option maxHeartbeats 40000000 in
theorem own_tobytes (l : Launch) (Z : State) (a0 : Array Value) (H : own_Wld Z a0) {cw : List Jvm.Cond} (c1 : Int32) (h0 : Heap) (O0 : Ext Z.heap h0) :
    Own.Con l Z consts_1 (⟨"java/lang/StringLatin1", "toBytes", "(C)[B"⟩ : MethodName) jdk_43_method_46_code 1 (some (.array .byte)) cw ({ frames := 0, cells := 1, slots := 1, locals := 0 } : Room) #[(.int c1)] h0 (fun v h => Keep h0 h [] ∧ ∃ x kb, v = some (.ref x) ∧ h0.size ≤ x ∧ Arv Z h x kb .byte (1 : Int32) [(.int c1.toInt8.toInt32)] (.int 0)) := by
  have hw := H.1
  have hW := fun (i : Nat) (w : Jvm.Cond) (e : tables_1[i]? = some w) => hw w (List.mem_of_getElem? e)
  have hCm := H.2.1
  have hSi := H.2.2.1
  have hEL := H.2.2.2
  have hWs : ∀ d ∈ StrChars.Road.words, d.before a0 Z = true := fun d hd => hw d (own_wbackV d hd)
  have hWe : ∀ d ∈ StrChars.Road.wordsEq, d.before a0 Z = true := fun d hd => hw d (own_weqW d hd)
  have hSA : ∀ d ∈ Bundle.stringAtoms, d.before a0 Z = true := fun d hd => hw d (own_wSA d hd)
  refine Own.Con.of own_pn1c965a hEL O0 ?_
  intro p e s m below meth c T0 G vm0 hx hby hml hret hnm hG hR S0
  have hz : ∀ L : Array Slot, L.size = 1 → L.size = c.maxLocals := fun L q => q.trans hml.symm
  rw [own_ef_own_tobytes]
  show G T0 (mkF m 0 #[iv c1] [])
  refine hG.st (fun t q => XS.iconst S0.here hx rfl (hb hby own_d3_0) q) ?_
  show G T0 (mkF m 1 #[iv c1] [(.int 1)])
  refine Own.Sit.newP hG S0 hx (aty := .byte) (hW 24 _ rfl) rfl (hb hby own_d3_1) rfl (by decide) (cap := 1) (by decide) (by decide) (by decide) (by decide) (fun T28 h28 x28 k28 g_x28 S28 J28 Sf28 (V28 : Arv Z h28 x28 k28 .byte (1 : Int32) [(.int 0)] (.int 0)) => ?_)
  have lt_x28 := V28.lt
  have ga_x28 : Z.heap.size ≤ x28 := Nat.le_trans S0.le (Nat.le_of_eq g_x28.symm)
  refine hG.st (fun t q => XS.dup S28.here hx rfl (hb hby own_d3_3) rfl rfl (XS.iconst S28.here hx rfl (hb hby own_d3_4) (XS.iloadN S28.here hx rfl (hb hby own_d3_5) rfl (XS.i2b S28.here hx rfl (hb hby own_d3_6) rfl q)))) ?_
  show G T28 (mkF m 7 #[iv c1] [(.int (c1.toInt8.toInt32)), (.int 0), (.ref x28), (.ref x28)])
  refine Own.Sit.stB hG S28 hx V28 ga_x28 Sf28 ⟨by decide, by decide⟩ 0 rfl (Nat.le_of_ble_eq_true rfl) rfl rfl (hb hby own_d3_7) (fun T29 h29 S29 J29 (V29 : Arv Z h29 x28 k28 .byte (1 : Int32) [(.int (nar .byte (c1.toInt8.toInt32)))] (.int 0)) => ?_)
  rw [own_nb] at V29
  have J30 : Own.Stp Z consts_1 vm0 h0 vm0 h29 [] := Own.Stp.trans J28 J29 (all0) (allS (Or.inr (Nat.le_of_eq g_x28.symm)) all0)
  show G T29 (mkF m 8 #[iv c1] [(.ref x28)])
  exact Own.Sit.retO hR S29 hx hret rfl (Or.inr (Or.inr (Or.inr (Or.inr ⟨rfl, rfl, rfl⟩)))) (hb hby own_d3_8) (by decide) (by decide) ⟨J30.1, x28, _, rfl, (Nat.le_of_eq g_x28.symm), V29⟩
theorem own_pn1ecdb9 : plainFor (⟨"java/lang/String", "<init>", "([BB)V"⟩ : MethodName) = true := by first | exact plainFor_of_name (by first | (simp [plainName, overriddenIn]; done) | decide +kernel) | decide +kernel
theorem own_d4_0 : decode jdk_42_method_151_code 0 = .ok (.aload_n 0, 1) := by decide +kernel
theorem own_d4_1 : decode jdk_42_method_151_code 1 = .ok (.invokespecial 1, 3) := by decide +kernel
theorem own_d4_4 : decode jdk_42_method_151_code 4 = .ok (.aload_n 0, 1) := by decide +kernel
theorem own_d4_5 : decode jdk_42_method_151_code 5 = .ok (.aload_n 1, 1) := by decide +kernel
theorem own_d4_6 : decode jdk_42_method_151_code 6 = .ok (.putfield 9, 3) := by decide +kernel
theorem own_d4_9 : decode jdk_42_method_151_code 9 = .ok (.aload_n 0, 1) := by decide +kernel
theorem own_d4_10 : decode jdk_42_method_151_code 10 = .ok (.iload_n 2, 1) := by decide +kernel
theorem own_d4_11 : decode jdk_42_method_151_code 11 = .ok (.putfield 15, 3) := by decide +kernel
theorem own_d4_14 : decode jdk_42_method_151_code 14 = .ok (.return_, 1) := by decide +kernel
theorem own_ef_own_inib (m : MethodId) (x : Addr) (b : Addr) : entryFrame m #[(.ref x), (.ref b), (.int 0)] 3 = mkF m 0 #[rv x, rv b, iv 0] [] := by first | (simp [entryFrame, mkF, argsToLocals, Value.category]; done) | rfl
set_option maxRecDepth 65536 in
set_option maxHeartbeats 40000000 in
theorem own_inib (l : Launch) (Z : State) (a0 : Array Value) (H : own_Wld Z a0) {cw : List Jvm.Cond} (x : Addr) (b : Addr) (h0 : Heap) (O0 : Ext Z.heap h0) (g_x : Z.heap.size ≤ x) (E_x : Exa Z h0 x "java/lang/String") (Fv : Fld Z h0 x "java/lang/String" "value" "[B" .null) (Fc : Fld Z h0 x "java/lang/String" "coder" "B" (.int 0)) :
    Own.Con l Z consts_1 (⟨"java/lang/String", "<init>", "([BB)V"⟩ : MethodName) jdk_42_method_151_code 3 none cw ({ frames := 1, cells := 0, slots := 0, locals := 12 } : Room) #[(.ref x), (.ref b), (.int 0)] h0 (fun v h => Keep h0 h [x] ∧ v = none ∧ Fld Z h x "java/lang/String" "value" "[B" (.ref b) ∧ Fld Z h x "java/lang/String" "coder" "B" (.int 0)) := by
  have hw := H.1
  have hW := fun (i : Nat) (w : Jvm.Cond) (e : tables_1[i]? = some w) => hw w (List.mem_of_getElem? e)
  have hCm := H.2.1
  have hSi := H.2.2.1
  have hEL := H.2.2.2
  have hWs : ∀ d ∈ StrChars.Road.words, d.before a0 Z = true := fun d hd => hw d (own_wbackV d hd)
  have hWe : ∀ d ∈ StrChars.Road.wordsEq, d.before a0 Z = true := fun d hd => hw d (own_weqW d hd)
  have hSA : ∀ d ∈ Bundle.stringAtoms, d.before a0 Z = true := fun d hd => hw d (own_wSA d hd)
  refine Own.Con.of own_pn1ecdb9 hEL O0 ?_
  intro p e s m below meth c T0 G vm0 hx hby hml hret hnm hG hR S0
  have hz : ∀ L : Array Slot, L.size = 3 → L.size = c.maxLocals := fun L q => q.trans hml.symm
  rw [own_ef_own_inib]
  show G T0 (mkF m 0 #[rv x, rv b, iv 0] [])
  have sf_x : Safe Z consts_1 vm0 h0 x := Own.Safe.blank S0.warm.alike E_x Fv (hW 7 _ rfl)
  refine hG.st (fun t q => XS.aloadN S0.here hx rfl (hb hby own_d4_0) rfl rfl q) ?_
  show G T0 (mkF m 1 #[rv x, rv b, iv 0] [(.ref x)])
  refine Own.Sit.initO hG S0 hx (hW 16 _ rfl) (hW 17 _ rfl) (hW 18 _ rfl) rfl (hz _ rfl) rfl (hb hby own_d4_1) (by decide) (W := 0) (Own.hw0 rfl rfl) (by decide) (fun T31 S31 => ?_)
  refine hG.st (fun t q => XS.aloadN S31.here hx rfl (hb hby own_d4_4) rfl rfl (XS.aloadN S31.here hx rfl (hb hby own_d4_5) rfl rfl q)) ?_
  show G T31 (mkF m 6 #[rv x, rv b, iv 0] [(.ref b), (.ref x)])
  refine Own.Sit.putF hG S31 hx (host := "") (Or.inl (hW 33 _ rfl)) Via.refl Fv E_x (Or.inr ⟨(hW 34 _ rfl), rfl, hnm⟩) (hW 7 _ rfl) (ty := (.array .byte)) (by decide) rfl rfl g_x sf_x rfl rfl (hb hby own_d4_6) (fun T32 h32 S32 J32 W32 F32 => ?_)
  have F33 := Fld.other W32 Fc (Or.inr (slot_ne (Or.inr (hW 32 _ rfl)) (Or.inr (hW 34 _ rfl)) (by decide) (t := .byte) (by decide) (t' := (.array .byte)) (by decide)))
  refine hG.st (fun t q => XS.aloadN S32.here hx rfl (hb hby own_d4_9) rfl rfl (XS.iloadN S32.here hx rfl (hb hby own_d4_10) rfl q)) ?_
  show G T32 (mkF m 11 #[rv x, rv b, iv 0] [(.int 0), (.ref x)])
  have E34 := J32.exa E_x
  have Sf35 := J32.safe E_x.lt sf_x
  refine Own.Sit.putF hG S32 hx (host := "") (Or.inl (hW 31 _ rfl)) Via.refl F33 E34 (Or.inr ⟨(hW 32 _ rfl), rfl, hnm⟩) (hW 7 _ rfl) (ty := .byte) (by decide) rfl rfl g_x Sf35 rfl rfl (hb hby own_d4_11) (fun T36 h36 S36 J36 W36 F36 => ?_)
  have F37 := Fld.other W36 F32 (Or.inr (slot_ne (Or.inr (hW 34 _ rfl)) (Or.inr (hW 32 _ rfl)) (by decide) (t := (.array .byte)) (by decide) (t' := .byte) (by decide)))
  have J38 : Own.Stp Z consts_1 vm0 h0 vm0 h36 [x] := Own.Stp.trans J32 J36 (allS (List.mem_of_getElem? (i := 0) rfl) (all0)) (allS (Or.inl (List.mem_of_getElem? (i := 0) rfl)) all0)
  show G T36 (mkF m 14 #[rv x, rv b, iv 0] [])
  exact Own.Sit.ret0 hR S36 hx hret (hb hby own_d4_14) (by decide) (by decide) ⟨J38.1, rfl, F37, F36⟩
theorem own_one {c : Int32} (h : ¬ c < 0 ∧ ¬ (255 : Int32) < c) : ∀ d ∈ [c], ¬ d < 0 ∧ ¬ (255 : Int32) < d := fun d hd => by cases List.mem_singleton.mp hd; exact h
theorem own_pncbfe6f : plainFor (⟨"java/lang/String", "valueOf", "(C)Ljava/lang/String;"⟩ : MethodName) = true := by first | exact plainFor_of_name (by first | (simp [plainName, overriddenIn]; done) | decide +kernel) | decide +kernel
theorem own_pdba6450 : parseMethodDescriptor "(C)Z" = some ⟨[.char], some .boolean⟩ := by decide +kernel
theorem own_pde6a979 : parseMethodDescriptor "(C)[B" = some ⟨[.char], some (.array .byte)⟩ := by decide +kernel
theorem own_pd52d553 : parseMethodDescriptor "([BB)V" = some ⟨[(.array .byte), .byte], none⟩ := by decide +kernel
theorem own_d5_0 : decode jdk_42_method_139_code 0 = .ok (.getstatic 38, 3) := by decide +kernel
theorem own_d5_3 : decode jdk_42_method_139_code 3 = .ok (.ifCond .eq 23, 3) := by decide +kernel
theorem own_d5_6 : decode jdk_42_method_139_code 6 = .ok (.iload_n 0, 1) := by decide +kernel
theorem own_d5_7 : decode jdk_42_method_139_code 7 = .ok (.invokestatic 1015, 3) := by decide +kernel
theorem own_d5_10 : decode jdk_42_method_139_code 10 = .ok (.ifCond .eq 16, 3) := by decide +kernel
theorem own_d5_13 : decode jdk_42_method_139_code 13 = .ok (.new 10, 3) := by decide +kernel
theorem own_d5_16 : decode jdk_42_method_139_code 16 = .ok (.dup, 1) := by decide +kernel
theorem own_d5_17 : decode jdk_42_method_139_code 17 = .ok (.iload_n 0, 1) := by decide +kernel
theorem own_d5_18 : decode jdk_42_method_139_code 18 = .ok (.invokestatic 1018, 3) := by decide +kernel
theorem own_d5_21 : decode jdk_42_method_139_code 21 = .ok (.iconst 0, 1) := by decide +kernel
theorem own_d5_22 : decode jdk_42_method_139_code 22 = .ok (.invokespecial 209, 3) := by decide +kernel
theorem own_d5_25 : decode jdk_42_method_139_code 25 = .ok (.areturn, 1) := by decide +kernel
theorem own_ef_own_valof (m : MethodId) (c1 : Int32) : entryFrame m #[(.int c1)] 1 = mkF m 0 #[iv c1] [] := by first | (simp [entryFrame, mkF, argsToLocals, Value.category]; done) | rfl
set_option maxRecDepth 65536 in
set_option maxHeartbeats 40000000 in
theorem own_valof (l : Launch) (Z : State) (a0 : Array Value) (H : own_Wld Z a0) {cw : List Jvm.Cond} (c1 : Int32) (h0 : Heap) (O0 : Ext Z.heap h0) (hc : ¬ c1 < 0 ∧ ¬ (255 : Int32) < c1) :
    Own.Con l Z consts_1 (⟨"java/lang/String", "valueOf", "(C)Ljava/lang/String;"⟩ : MethodName) jdk_42_method_139_code 1 (some (.object "java/lang/String")) cw ({ frames := 2, cells := 2, slots := 5, locals := 27 } : Room) #[(.int c1)] h0 (fun v h => Keep h0 h [] ∧ ∃ x t, v = some (.ref x) ∧ Own.Str Z h x t ([c1] : List Int32) ∧ h0.size ≤ x) := by
  have hw := H.1
  have hW := fun (i : Nat) (w : Jvm.Cond) (e : tables_1[i]? = some w) => hw w (List.mem_of_getElem? e)
  have hCm := H.2.1
  have hSi := H.2.2.1
  have hEL := H.2.2.2
  have hWs : ∀ d ∈ StrChars.Road.words, d.before a0 Z = true := fun d hd => hw d (own_wbackV d hd)
  have hWe : ∀ d ∈ StrChars.Road.wordsEq, d.before a0 Z = true := fun d hd => hw d (own_weqW d hd)
  have hSA : ∀ d ∈ Bundle.stringAtoms, d.before a0 Z = true := fun d hd => hw d (own_wSA d hd)
  refine Own.Con.of own_pncbfe6f hEL O0 ?_
  intro p e s m below meth c T0 G vm0 hx hby hml hret hnm hG hR S0
  have hz : ∀ L : Array Slot, L.size = 1 → L.size = c.maxLocals := fun L q => q.trans hml.symm
  rw [own_ef_own_valof]
  show G T0 (mkF m 0 #[iv c1] [])
  obtain ⟨zc, Szc, nzc⟩ := id hCm
  refine Own.Sit.getS hG S0 hx (host := "") (Or.inl (hW 19 _ rfl)) Via.refl (Szc.ext S0.old) rfl (hb hby own_d5_0) (fun T39 S39 => ?_)
  refine hG.st (fun t q => XS.ifNo S39.here hx rfl (hb hby own_d5_3) rfl ((if0 _ _).trans (feq (nzc : ¬ (zc = (0 : Int32)))).1) (XS.iloadN S39.here hx rfl (hb hby own_d5_6) rfl q)) ?_
  show G T39 (mkF m 7 #[iv c1] [(.int c1)])
  refine Own.Sit.callS hG S39 hx hEL (as := [(.int c1)]) (hW 64 _ rfl) (hW 65 _ rfl) (hW 53 _ rfl) (hW 66 _ rfl) (by decide) (own_canenc l Z a0 H c1 h0 S39.old hc.2) own_pdba6450 rfl rfl (hz _ rfl) (rest := []) rfl (W := 0) (Own.hw0 rfl rfl) (hb hby own_d5_7) (by decide) (by decide) (by decide) (by decide) (fun v40 vm40 T40 h40 S40 C40 q40 => ?_)
  obtain ⟨K40, rfl⟩ := q40
  have J40 : Own.Stp Z consts_1 vm0 h0 vm40 h40 [] := ⟨K40, C40⟩
  refine hG.st (fun t q => XS.ifNo S40.here hx rfl (hb hby own_d5_10) rfl ((if0 _ _).trans (feq (by decide : ¬ ((1 : Int32) = (0 : Int32)))).1) q) ?_
  show G T40 (mkF m 13 #[iv c1] [])
  refine Own.Sit.newO hG S40 hx (hW 50 _ rfl) (hW 7 _ rfl) (hW 8 _ rfl) rfl (hb hby own_d5_13) (by decide) (by decide) (fun T41 h41 x41 g_x41 S41 J41 Sf41 E41 D41 => ?_)
  have lt_x41 := E41.lt
  have ga_x41 : Z.heap.size ≤ x41 := Nat.le_trans S40.le (Nat.le_of_eq g_x41.symm)
  have F42 : Fld Z h41 x41 "java/lang/String" "coder" "B" (.int 0) := D41 (Or.inr (hW 32 _ rfl)) (ty := .byte) (by decide)
  have F43 : Fld Z h41 x41 "java/lang/String" "value" "[B" .null := D41 (Or.inr (hW 34 _ rfl)) (ty := (.array .byte)) (by decide)
  refine hG.st (fun t q => XS.dup S41.here hx rfl (hb hby own_d5_16) rfl rfl (XS.iloadN S41.here hx rfl (hb hby own_d5_17) rfl q)) ?_
  show G T41 (mkF m 18 #[iv c1] [(.int c1), (.ref x41), (.ref x41)])
  refine Own.Sit.callS hG S41 hx hEL (as := [(.int c1)]) (hW 67 _ rfl) (hW 68 _ rfl) (hW 53 _ rfl) (hW 69 _ rfl) (by decide) (own_tobytes l Z a0 H c1 h41 S41.old) own_pde6a979 rfl rfl (hz _ rfl) (rest := [(.ref x41), (.ref x41)]) rfl (W := 2) (Own.hw0 rfl rfl) (hb hby own_d5_18) (by decide) (by decide) (by decide) (by decide) (fun v44 vm44 T44 h44 S44 C44 q44 => ?_)
  obtain ⟨K44, x44, k44, rfl, u44, V44⟩ := q44
  have J44 : Own.Stp Z consts_1 vm40 h41 vm44 h44 [] := ⟨K44, C44⟩
  refine hG.st (fun t q => XS.iconst S44.here hx rfl (hb hby own_d5_21) q) ?_
  show G T44 (mkF m 22 #[iv c1] [(.int 0), (.ref x44), (.ref x41), (.ref x41)])
  have E45 := J44.exa E41
  have F46 := J44.fld F43 nin0
  have F47 := J44.fld F42 nin0
  refine Own.Sit.callI hG S44 hx hEL rfl (as := [(.ref x44), (.int 0)]) (hW 70 _ rfl) (hW 71 _ rfl) (hW 8 _ rfl) (hW 72 _ rfl) (by decide) (own_inib l Z a0 H x41 x44 h44 S44.old ga_x41 E45 F46 F47) own_pd52d553 rfl rfl (hz _ rfl) (rest := [(.ref x41)]) rfl (W := 1) (Own.hw0 rfl rfl) (hb hby own_d5_22) (by decide) (by decide) (by decide) (by decide) (fun v48 vm48 T48 h48 S48 C48 q48 => ?_)
  obtain ⟨K48, rfl, Fv48, Fc48⟩ := q48
  have J48 : Own.Stp Z consts_1 vm44 h44 vm48 h48 [x41] := ⟨K48, C48⟩
  have J49 : Own.Stp Z consts_1 vm0 h0 vm40 h41 [] := Own.Stp.trans J40 J41 (all0) all0
  have J50 : Own.Stp Z consts_1 vm0 h0 vm44 h44 [] := Own.Stp.trans J49 J44 (all0) all0
  have J51 : Own.Stp Z consts_1 vm0 h0 vm48 h48 [] := Own.Stp.trans J50 J48 (all0) (allS (Or.inr (Nat.le_trans J40.1.1 (Nat.le_of_eq g_x41.symm))) all0)
  have E52 := J48.exa E45
  have V53 := J48.arv V44 (ninS (Ne.symm (Exa.neArv (J44.exa E41) V44 (hW 7 _ rfl))) nin0)
  show G T48 (mkF m 25 #[iv c1] [(.ref x41)])
  exact Own.Sit.retO hR S48 hx hret rfl (Or.inr (Or.inr (Or.inr (Or.inr ⟨rfl, rfl, rfl⟩)))) (hb hby own_d5_25) (by decide) (by decide) ⟨J51.1, x41, x44, rfl, ⟨k44, E52, Fv48, Fc48, V53, own_one hc, Nat.le_of_ble_eq_true rfl⟩, (Nat.le_trans J40.1.1 (Nat.le_of_eq g_x41.symm))⟩
theorem own_pnb9cc79 : plainFor (⟨"com/example/scholiast/scholiast/ModsReaderNeedsChildElementPinLaw", "nsChars", "(I)[C"⟩ : MethodName) = true := by first | exact plainFor_of_name (by first | (simp [plainName, overriddenIn]; done) | decide +kernel) | decide +kernel
theorem own_d6_0 : decode method_2_code 0 = .ok (.iload_n 0, 1) := by decide +kernel
theorem own_d6_1 : decode method_2_code 1 = .ok (.ifCond .ne 158, 3) := by decide +kernel
theorem own_d6_4 : decode method_2_code 4 = .ok (.bipush 26, 2) := by decide +kernel
theorem own_d6_6 : decode method_2_code 6 = .ok (.newarray .char, 2) := by decide +kernel
theorem own_d6_8 : decode method_2_code 8 = .ok (.dup, 1) := by decide +kernel
theorem own_d6_9 : decode method_2_code 9 = .ok (.iconst 0, 1) := by decide +kernel
theorem own_d6_10 : decode method_2_code 10 = .ok (.bipush 104, 2) := by decide +kernel
theorem own_d6_12 : decode method_2_code 12 = .ok (.castore, 1) := by decide +kernel
theorem own_d6_13 : decode method_2_code 13 = .ok (.dup, 1) := by decide +kernel
theorem own_d6_14 : decode method_2_code 14 = .ok (.iconst 1, 1) := by decide +kernel
theorem own_d6_15 : decode method_2_code 15 = .ok (.bipush 116, 2) := by decide +kernel
theorem own_d6_17 : decode method_2_code 17 = .ok (.castore, 1) := by decide +kernel
theorem own_d6_18 : decode method_2_code 18 = .ok (.dup, 1) := by decide +kernel
theorem own_d6_19 : decode method_2_code 19 = .ok (.iconst 2, 1) := by decide +kernel
theorem own_d6_20 : decode method_2_code 20 = .ok (.bipush 116, 2) := by decide +kernel
theorem own_d6_22 : decode method_2_code 22 = .ok (.castore, 1) := by decide +kernel
theorem own_d6_23 : decode method_2_code 23 = .ok (.dup, 1) := by decide +kernel
theorem own_d6_24 : decode method_2_code 24 = .ok (.iconst 3, 1) := by decide +kernel
theorem own_d6_25 : decode method_2_code 25 = .ok (.bipush 112, 2) := by decide +kernel
theorem own_d6_27 : decode method_2_code 27 = .ok (.castore, 1) := by decide +kernel
theorem own_d6_28 : decode method_2_code 28 = .ok (.dup, 1) := by decide +kernel
theorem own_d6_29 : decode method_2_code 29 = .ok (.iconst 4, 1) := by decide +kernel
theorem own_d6_30 : decode method_2_code 30 = .ok (.bipush 58, 2) := by decide +kernel
theorem own_d6_32 : decode method_2_code 32 = .ok (.castore, 1) := by decide +kernel
theorem own_d6_33 : decode method_2_code 33 = .ok (.dup, 1) := by decide +kernel
theorem own_d6_34 : decode method_2_code 34 = .ok (.iconst 5, 1) := by decide +kernel
theorem own_d6_35 : decode method_2_code 35 = .ok (.bipush 47, 2) := by decide +kernel
theorem own_d6_37 : decode method_2_code 37 = .ok (.castore, 1) := by decide +kernel
theorem own_d6_38 : decode method_2_code 38 = .ok (.dup, 1) := by decide +kernel
theorem own_d6_39 : decode method_2_code 39 = .ok (.bipush 6, 2) := by decide +kernel
theorem own_d6_41 : decode method_2_code 41 = .ok (.bipush 47, 2) := by decide +kernel
theorem own_d6_43 : decode method_2_code 43 = .ok (.castore, 1) := by decide +kernel
theorem own_d6_44 : decode method_2_code 44 = .ok (.dup, 1) := by decide +kernel
theorem own_d6_45 : decode method_2_code 45 = .ok (.bipush 7, 2) := by decide +kernel
theorem own_d6_47 : decode method_2_code 47 = .ok (.bipush 119, 2) := by decide +kernel
theorem own_d6_49 : decode method_2_code 49 = .ok (.castore, 1) := by decide +kernel
theorem own_d6_50 : decode method_2_code 50 = .ok (.dup, 1) := by decide +kernel
theorem own_d6_51 : decode method_2_code 51 = .ok (.bipush 8, 2) := by decide +kernel
theorem own_d6_53 : decode method_2_code 53 = .ok (.bipush 119, 2) := by decide +kernel
theorem own_d6_55 : decode method_2_code 55 = .ok (.castore, 1) := by decide +kernel
theorem own_d6_56 : decode method_2_code 56 = .ok (.dup, 1) := by decide +kernel
theorem own_d6_57 : decode method_2_code 57 = .ok (.bipush 9, 2) := by decide +kernel
theorem own_d6_59 : decode method_2_code 59 = .ok (.bipush 119, 2) := by decide +kernel
theorem own_d6_61 : decode method_2_code 61 = .ok (.castore, 1) := by decide +kernel
theorem own_d6_62 : decode method_2_code 62 = .ok (.dup, 1) := by decide +kernel
theorem own_d6_63 : decode method_2_code 63 = .ok (.bipush 10, 2) := by decide +kernel
theorem own_d6_65 : decode method_2_code 65 = .ok (.bipush 46, 2) := by decide +kernel
theorem own_d6_67 : decode method_2_code 67 = .ok (.castore, 1) := by decide +kernel
theorem own_d6_68 : decode method_2_code 68 = .ok (.dup, 1) := by decide +kernel
theorem own_d6_69 : decode method_2_code 69 = .ok (.bipush 11, 2) := by decide +kernel
theorem own_d6_71 : decode method_2_code 71 = .ok (.bipush 108, 2) := by decide +kernel
theorem own_d6_73 : decode method_2_code 73 = .ok (.castore, 1) := by decide +kernel
theorem own_d6_74 : decode method_2_code 74 = .ok (.dup, 1) := by decide +kernel
theorem own_d6_75 : decode method_2_code 75 = .ok (.bipush 12, 2) := by decide +kernel
theorem own_d6_77 : decode method_2_code 77 = .ok (.bipush 111, 2) := by decide +kernel
theorem own_d6_79 : decode method_2_code 79 = .ok (.castore, 1) := by decide +kernel
theorem own_d6_80 : decode method_2_code 80 = .ok (.dup, 1) := by decide +kernel
theorem own_d6_81 : decode method_2_code 81 = .ok (.bipush 13, 2) := by decide +kernel
theorem own_d6_83 : decode method_2_code 83 = .ok (.bipush 99, 2) := by decide +kernel
theorem own_d6_85 : decode method_2_code 85 = .ok (.castore, 1) := by decide +kernel
theorem own_d6_86 : decode method_2_code 86 = .ok (.dup, 1) := by decide +kernel
theorem own_d6_87 : decode method_2_code 87 = .ok (.bipush 14, 2) := by decide +kernel
theorem own_d6_89 : decode method_2_code 89 = .ok (.bipush 46, 2) := by decide +kernel
theorem own_d6_91 : decode method_2_code 91 = .ok (.castore, 1) := by decide +kernel
theorem own_d6_92 : decode method_2_code 92 = .ok (.dup, 1) := by decide +kernel
theorem own_d6_93 : decode method_2_code 93 = .ok (.bipush 15, 2) := by decide +kernel
theorem own_d6_95 : decode method_2_code 95 = .ok (.bipush 103, 2) := by decide +kernel
theorem own_d6_97 : decode method_2_code 97 = .ok (.castore, 1) := by decide +kernel
theorem own_d6_98 : decode method_2_code 98 = .ok (.dup, 1) := by decide +kernel
theorem own_d6_99 : decode method_2_code 99 = .ok (.bipush 16, 2) := by decide +kernel
theorem own_d6_101 : decode method_2_code 101 = .ok (.bipush 111, 2) := by decide +kernel
theorem own_d6_103 : decode method_2_code 103 = .ok (.castore, 1) := by decide +kernel
theorem own_d6_104 : decode method_2_code 104 = .ok (.dup, 1) := by decide +kernel
theorem own_d6_105 : decode method_2_code 105 = .ok (.bipush 17, 2) := by decide +kernel
theorem own_d6_107 : decode method_2_code 107 = .ok (.bipush 118, 2) := by decide +kernel
theorem own_d6_109 : decode method_2_code 109 = .ok (.castore, 1) := by decide +kernel
theorem own_d6_110 : decode method_2_code 110 = .ok (.dup, 1) := by decide +kernel
theorem own_d6_111 : decode method_2_code 111 = .ok (.bipush 18, 2) := by decide +kernel
theorem own_d6_113 : decode method_2_code 113 = .ok (.bipush 47, 2) := by decide +kernel
theorem own_d6_115 : decode method_2_code 115 = .ok (.castore, 1) := by decide +kernel
theorem own_d6_116 : decode method_2_code 116 = .ok (.dup, 1) := by decide +kernel
theorem own_d6_117 : decode method_2_code 117 = .ok (.bipush 19, 2) := by decide +kernel
theorem own_d6_119 : decode method_2_code 119 = .ok (.bipush 109, 2) := by decide +kernel
theorem own_d6_121 : decode method_2_code 121 = .ok (.castore, 1) := by decide +kernel
theorem own_d6_122 : decode method_2_code 122 = .ok (.dup, 1) := by decide +kernel
theorem own_d6_123 : decode method_2_code 123 = .ok (.bipush 20, 2) := by decide +kernel
theorem own_d6_125 : decode method_2_code 125 = .ok (.bipush 111, 2) := by decide +kernel
theorem own_d6_127 : decode method_2_code 127 = .ok (.castore, 1) := by decide +kernel
theorem own_d6_128 : decode method_2_code 128 = .ok (.dup, 1) := by decide +kernel
theorem own_d6_129 : decode method_2_code 129 = .ok (.bipush 21, 2) := by decide +kernel
theorem own_d6_131 : decode method_2_code 131 = .ok (.bipush 100, 2) := by decide +kernel
theorem own_d6_133 : decode method_2_code 133 = .ok (.castore, 1) := by decide +kernel
theorem own_d6_134 : decode method_2_code 134 = .ok (.dup, 1) := by decide +kernel
theorem own_d6_135 : decode method_2_code 135 = .ok (.bipush 22, 2) := by decide +kernel
theorem own_d6_137 : decode method_2_code 137 = .ok (.bipush 115, 2) := by decide +kernel
theorem own_d6_139 : decode method_2_code 139 = .ok (.castore, 1) := by decide +kernel
theorem own_d6_140 : decode method_2_code 140 = .ok (.dup, 1) := by decide +kernel
theorem own_d6_141 : decode method_2_code 141 = .ok (.bipush 23, 2) := by decide +kernel
theorem own_d6_143 : decode method_2_code 143 = .ok (.bipush 47, 2) := by decide +kernel
theorem own_d6_145 : decode method_2_code 145 = .ok (.castore, 1) := by decide +kernel
theorem own_d6_146 : decode method_2_code 146 = .ok (.dup, 1) := by decide +kernel
theorem own_d6_147 : decode method_2_code 147 = .ok (.bipush 24, 2) := by decide +kernel
theorem own_d6_149 : decode method_2_code 149 = .ok (.bipush 118, 2) := by decide +kernel
theorem own_d6_151 : decode method_2_code 151 = .ok (.castore, 1) := by decide +kernel
theorem own_d6_152 : decode method_2_code 152 = .ok (.dup, 1) := by decide +kernel
theorem own_d6_153 : decode method_2_code 153 = .ok (.bipush 25, 2) := by decide +kernel
theorem own_d6_155 : decode method_2_code 155 = .ok (.bipush 51, 2) := by decide +kernel
theorem own_d6_157 : decode method_2_code 157 = .ok (.castore, 1) := by decide +kernel
theorem own_d6_158 : decode method_2_code 158 = .ok (.areturn, 1) := by decide +kernel
theorem own_ef_own_ns0 (m : MethodId)  : entryFrame m #[(.int 0)] 1 = mkF m 0 #[iv 0] [] := by first | (simp [entryFrame, mkF, argsToLocals, Value.category]; done) | rfl
set_option maxRecDepth 65536 in
set_option maxHeartbeats 40000000 in
theorem own_ns0 (l : Launch) (Z : State) (a0 : Array Value) (H : own_Wld Z a0) {cw : List Jvm.Cond}  (h0 : Heap) (O0 : Ext Z.heap h0) :
    Own.Con l Z consts_1 (⟨"com/example/scholiast/scholiast/ModsReaderNeedsChildElementPinLaw", "nsChars", "(I)[C"⟩ : MethodName) method_2_code 1 (some (.array .char)) cw ({ frames := 0, cells := 1, slots := 26, locals := 0 } : Room) #[(.int 0)] h0 (fun v h => Keep h0 h [] ∧ ∃ x kc, v = some (.ref x) ∧ h0.size ≤ x ∧ Arv Z h x kc .char (26 : Int32) (own_L0.map Value.int) (.int 0)) := by
  have hw := H.1
  have hW := fun (i : Nat) (w : Jvm.Cond) (e : tables_1[i]? = some w) => hw w (List.mem_of_getElem? e)
  have hCm := H.2.1
  have hSi := H.2.2.1
  have hEL := H.2.2.2
  have hWs : ∀ d ∈ StrChars.Road.words, d.before a0 Z = true := fun d hd => hw d (own_wbackV d hd)
  have hWe : ∀ d ∈ StrChars.Road.wordsEq, d.before a0 Z = true := fun d hd => hw d (own_weqW d hd)
  have hSA : ∀ d ∈ Bundle.stringAtoms, d.before a0 Z = true := fun d hd => hw d (own_wSA d hd)
  refine Own.Con.of own_pnb9cc79 hEL O0 ?_
  intro p e s m below meth c T0 G vm0 hx hby hml hret hnm hG hR S0
  have hz : ∀ L : Array Slot, L.size = 1 → L.size = c.maxLocals := fun L q => q.trans hml.symm
  rw [own_ef_own_ns0]
  show G T0 (mkF m 0 #[iv 0] [])
  refine hG.st (fun t q => XS.iloadN S0.here hx rfl (hb hby own_d6_0) rfl (XS.ifNo S0.here hx rfl (hb hby own_d6_1) rfl ((if0 _ _).trans (teq (by decide : (0 : Int32) = (0 : Int32))).2) (XS.bipush S0.here hx rfl (hb hby own_d6_4) q))) ?_
  show G T0 (mkF m 6 #[iv 0] [(.int 26)])
  refine Own.Sit.newP hG S0 hx (aty := .char) (hW 4 _ rfl) rfl (hb hby own_d6_6) rfl (by decide) (cap := 26) (by decide) (by decide) (by decide) (by decide) (fun T54 h54 x54 k54 g_x54 S54 J54 Sf54 (V54 : Arv Z h54 x54 k54 .char (26 : Int32) (List.map Value.int (0::0::0::0::0::0::0::0::0::0::0::0::0::0::0::0::0::0::0::0::0::0::0::0::0::0::[])) (.int 0)) => ?_)
  have lt_x54 := V54.lt
  have ga_x54 : Z.heap.size ≤ x54 := Nat.le_trans S0.le (Nat.le_of_eq g_x54.symm)
  refine hG.st (fun t q => XS.dup S54.here hx rfl (hb hby own_d6_8) rfl rfl (XS.iconst S54.here hx rfl (hb hby own_d6_9) (XS.bipush S54.here hx rfl (hb hby own_d6_10) q))) ?_
  show G T54 (mkF m 12 #[iv 0] [(.int 104), (.int 0), (.ref x54), (.ref x54)])
  refine Own.Sit.stC hG S54 hx V54 ga_x54 ⟨by decide, by decide⟩ 0 rfl (Nat.le_of_ble_eq_true rfl) rfl rfl (hb hby own_d6_12) (fun T55 h55 S55 J55 (V55 : Arv Z h55 x54 k54 .char (26 : Int32) (List.map Value.int (104::0::0::0::0::0::0::0::0::0::0::0::0::0::0::0::0::0::0::0::0::0::0::0::0::0::[])) (.int 0)) => ?_)
  refine hG.st (fun t q => XS.dup S55.here hx rfl (hb hby own_d6_13) rfl rfl (XS.iconst S55.here hx rfl (hb hby own_d6_14) (XS.bipush S55.here hx rfl (hb hby own_d6_15) q))) ?_
  show G T55 (mkF m 17 #[iv 0] [(.int 116), (.int 1), (.ref x54), (.ref x54)])
  refine Own.Sit.stC hG S55 hx V55 ga_x54 ⟨by decide, by decide⟩ 1 rfl (Nat.le_of_ble_eq_true rfl) rfl rfl (hb hby own_d6_17) (fun T56 h56 S56 J56 (V56 : Arv Z h56 x54 k54 .char (26 : Int32) (List.map Value.int (104::116::0::0::0::0::0::0::0::0::0::0::0::0::0::0::0::0::0::0::0::0::0::0::0::0::[])) (.int 0)) => ?_)
  refine hG.st (fun t q => XS.dup S56.here hx rfl (hb hby own_d6_18) rfl rfl (XS.iconst S56.here hx rfl (hb hby own_d6_19) (XS.bipush S56.here hx rfl (hb hby own_d6_20) q))) ?_
  show G T56 (mkF m 22 #[iv 0] [(.int 116), (.int 2), (.ref x54), (.ref x54)])
  refine Own.Sit.stC hG S56 hx V56 ga_x54 ⟨by decide, by decide⟩ 2 rfl (Nat.le_of_ble_eq_true rfl) rfl rfl (hb hby own_d6_22) (fun T57 h57 S57 J57 (V57 : Arv Z h57 x54 k54 .char (26 : Int32) (List.map Value.int (104::116::116::0::0::0::0::0::0::0::0::0::0::0::0::0::0::0::0::0::0::0::0::0::0::0::[])) (.int 0)) => ?_)
  refine hG.st (fun t q => XS.dup S57.here hx rfl (hb hby own_d6_23) rfl rfl (XS.iconst S57.here hx rfl (hb hby own_d6_24) (XS.bipush S57.here hx rfl (hb hby own_d6_25) q))) ?_
  show G T57 (mkF m 27 #[iv 0] [(.int 112), (.int 3), (.ref x54), (.ref x54)])
  refine Own.Sit.stC hG S57 hx V57 ga_x54 ⟨by decide, by decide⟩ 3 rfl (Nat.le_of_ble_eq_true rfl) rfl rfl (hb hby own_d6_27) (fun T58 h58 S58 J58 (V58 : Arv Z h58 x54 k54 .char (26 : Int32) (List.map Value.int (104::116::116::112::0::0::0::0::0::0::0::0::0::0::0::0::0::0::0::0::0::0::0::0::0::0::[])) (.int 0)) => ?_)
  refine hG.st (fun t q => XS.dup S58.here hx rfl (hb hby own_d6_28) rfl rfl (XS.iconst S58.here hx rfl (hb hby own_d6_29) (XS.bipush S58.here hx rfl (hb hby own_d6_30) q))) ?_
  show G T58 (mkF m 32 #[iv 0] [(.int 58), (.int 4), (.ref x54), (.ref x54)])
  refine Own.Sit.stC hG S58 hx V58 ga_x54 ⟨by decide, by decide⟩ 4 rfl (Nat.le_of_ble_eq_true rfl) rfl rfl (hb hby own_d6_32) (fun T59 h59 S59 J59 (V59 : Arv Z h59 x54 k54 .char (26 : Int32) (List.map Value.int (104::116::116::112::58::0::0::0::0::0::0::0::0::0::0::0::0::0::0::0::0::0::0::0::0::0::[])) (.int 0)) => ?_)
  refine hG.st (fun t q => XS.dup S59.here hx rfl (hb hby own_d6_33) rfl rfl (XS.iconst S59.here hx rfl (hb hby own_d6_34) (XS.bipush S59.here hx rfl (hb hby own_d6_35) q))) ?_
  show G T59 (mkF m 37 #[iv 0] [(.int 47), (.int 5), (.ref x54), (.ref x54)])
  refine Own.Sit.stC hG S59 hx V59 ga_x54 ⟨by decide, by decide⟩ 5 rfl (Nat.le_of_ble_eq_true rfl) rfl rfl (hb hby own_d6_37) (fun T60 h60 S60 J60 (V60 : Arv Z h60 x54 k54 .char (26 : Int32) (List.map Value.int (104::116::116::112::58::47::0::0::0::0::0::0::0::0::0::0::0::0::0::0::0::0::0::0::0::0::[])) (.int 0)) => ?_)
  refine hG.st (fun t q => XS.dup S60.here hx rfl (hb hby own_d6_38) rfl rfl (XS.bipush S60.here hx rfl (hb hby own_d6_39) (XS.bipush S60.here hx rfl (hb hby own_d6_41) q))) ?_
  show G T60 (mkF m 43 #[iv 0] [(.int 47), (.int 6), (.ref x54), (.ref x54)])
  refine Own.Sit.stC hG S60 hx V60 ga_x54 ⟨by decide, by decide⟩ 6 rfl (Nat.le_of_ble_eq_true rfl) rfl rfl (hb hby own_d6_43) (fun T61 h61 S61 J61 (V61 : Arv Z h61 x54 k54 .char (26 : Int32) (List.map Value.int (104::116::116::112::58::47::47::0::0::0::0::0::0::0::0::0::0::0::0::0::0::0::0::0::0::0::[])) (.int 0)) => ?_)
  refine hG.st (fun t q => XS.dup S61.here hx rfl (hb hby own_d6_44) rfl rfl (XS.bipush S61.here hx rfl (hb hby own_d6_45) (XS.bipush S61.here hx rfl (hb hby own_d6_47) q))) ?_
  show G T61 (mkF m 49 #[iv 0] [(.int 119), (.int 7), (.ref x54), (.ref x54)])
  refine Own.Sit.stC hG S61 hx V61 ga_x54 ⟨by decide, by decide⟩ 7 rfl (Nat.le_of_ble_eq_true rfl) rfl rfl (hb hby own_d6_49) (fun T62 h62 S62 J62 (V62 : Arv Z h62 x54 k54 .char (26 : Int32) (List.map Value.int (104::116::116::112::58::47::47::119::0::0::0::0::0::0::0::0::0::0::0::0::0::0::0::0::0::0::[])) (.int 0)) => ?_)
  refine hG.st (fun t q => XS.dup S62.here hx rfl (hb hby own_d6_50) rfl rfl (XS.bipush S62.here hx rfl (hb hby own_d6_51) (XS.bipush S62.here hx rfl (hb hby own_d6_53) q))) ?_
  show G T62 (mkF m 55 #[iv 0] [(.int 119), (.int 8), (.ref x54), (.ref x54)])
  refine Own.Sit.stC hG S62 hx V62 ga_x54 ⟨by decide, by decide⟩ 8 rfl (Nat.le_of_ble_eq_true rfl) rfl rfl (hb hby own_d6_55) (fun T63 h63 S63 J63 (V63 : Arv Z h63 x54 k54 .char (26 : Int32) (List.map Value.int (104::116::116::112::58::47::47::119::119::0::0::0::0::0::0::0::0::0::0::0::0::0::0::0::0::0::[])) (.int 0)) => ?_)
  refine hG.st (fun t q => XS.dup S63.here hx rfl (hb hby own_d6_56) rfl rfl (XS.bipush S63.here hx rfl (hb hby own_d6_57) (XS.bipush S63.here hx rfl (hb hby own_d6_59) q))) ?_
  show G T63 (mkF m 61 #[iv 0] [(.int 119), (.int 9), (.ref x54), (.ref x54)])
  refine Own.Sit.stC hG S63 hx V63 ga_x54 ⟨by decide, by decide⟩ 9 rfl (Nat.le_of_ble_eq_true rfl) rfl rfl (hb hby own_d6_61) (fun T64 h64 S64 J64 (V64 : Arv Z h64 x54 k54 .char (26 : Int32) (List.map Value.int (104::116::116::112::58::47::47::119::119::119::0::0::0::0::0::0::0::0::0::0::0::0::0::0::0::0::[])) (.int 0)) => ?_)
  refine hG.st (fun t q => XS.dup S64.here hx rfl (hb hby own_d6_62) rfl rfl (XS.bipush S64.here hx rfl (hb hby own_d6_63) (XS.bipush S64.here hx rfl (hb hby own_d6_65) q))) ?_
  show G T64 (mkF m 67 #[iv 0] [(.int 46), (.int 10), (.ref x54), (.ref x54)])
  refine Own.Sit.stC hG S64 hx V64 ga_x54 ⟨by decide, by decide⟩ 10 rfl (Nat.le_of_ble_eq_true rfl) rfl rfl (hb hby own_d6_67) (fun T65 h65 S65 J65 (V65 : Arv Z h65 x54 k54 .char (26 : Int32) (List.map Value.int (104::116::116::112::58::47::47::119::119::119::46::0::0::0::0::0::0::0::0::0::0::0::0::0::0::0::[])) (.int 0)) => ?_)
  refine hG.st (fun t q => XS.dup S65.here hx rfl (hb hby own_d6_68) rfl rfl (XS.bipush S65.here hx rfl (hb hby own_d6_69) (XS.bipush S65.here hx rfl (hb hby own_d6_71) q))) ?_
  show G T65 (mkF m 73 #[iv 0] [(.int 108), (.int 11), (.ref x54), (.ref x54)])
  refine Own.Sit.stC hG S65 hx V65 ga_x54 ⟨by decide, by decide⟩ 11 rfl (Nat.le_of_ble_eq_true rfl) rfl rfl (hb hby own_d6_73) (fun T66 h66 S66 J66 (V66 : Arv Z h66 x54 k54 .char (26 : Int32) (List.map Value.int (104::116::116::112::58::47::47::119::119::119::46::108::0::0::0::0::0::0::0::0::0::0::0::0::0::0::[])) (.int 0)) => ?_)
  refine hG.st (fun t q => XS.dup S66.here hx rfl (hb hby own_d6_74) rfl rfl (XS.bipush S66.here hx rfl (hb hby own_d6_75) (XS.bipush S66.here hx rfl (hb hby own_d6_77) q))) ?_
  show G T66 (mkF m 79 #[iv 0] [(.int 111), (.int 12), (.ref x54), (.ref x54)])
  refine Own.Sit.stC hG S66 hx V66 ga_x54 ⟨by decide, by decide⟩ 12 rfl (Nat.le_of_ble_eq_true rfl) rfl rfl (hb hby own_d6_79) (fun T67 h67 S67 J67 (V67 : Arv Z h67 x54 k54 .char (26 : Int32) (List.map Value.int (104::116::116::112::58::47::47::119::119::119::46::108::111::0::0::0::0::0::0::0::0::0::0::0::0::0::[])) (.int 0)) => ?_)
  refine hG.st (fun t q => XS.dup S67.here hx rfl (hb hby own_d6_80) rfl rfl (XS.bipush S67.here hx rfl (hb hby own_d6_81) (XS.bipush S67.here hx rfl (hb hby own_d6_83) q))) ?_
  show G T67 (mkF m 85 #[iv 0] [(.int 99), (.int 13), (.ref x54), (.ref x54)])
  refine Own.Sit.stC hG S67 hx V67 ga_x54 ⟨by decide, by decide⟩ 13 rfl (Nat.le_of_ble_eq_true rfl) rfl rfl (hb hby own_d6_85) (fun T68 h68 S68 J68 (V68 : Arv Z h68 x54 k54 .char (26 : Int32) (List.map Value.int (104::116::116::112::58::47::47::119::119::119::46::108::111::99::0::0::0::0::0::0::0::0::0::0::0::0::[])) (.int 0)) => ?_)
  refine hG.st (fun t q => XS.dup S68.here hx rfl (hb hby own_d6_86) rfl rfl (XS.bipush S68.here hx rfl (hb hby own_d6_87) (XS.bipush S68.here hx rfl (hb hby own_d6_89) q))) ?_
  show G T68 (mkF m 91 #[iv 0] [(.int 46), (.int 14), (.ref x54), (.ref x54)])
  refine Own.Sit.stC hG S68 hx V68 ga_x54 ⟨by decide, by decide⟩ 14 rfl (Nat.le_of_ble_eq_true rfl) rfl rfl (hb hby own_d6_91) (fun T69 h69 S69 J69 (V69 : Arv Z h69 x54 k54 .char (26 : Int32) (List.map Value.int (104::116::116::112::58::47::47::119::119::119::46::108::111::99::46::0::0::0::0::0::0::0::0::0::0::0::[])) (.int 0)) => ?_)
  refine hG.st (fun t q => XS.dup S69.here hx rfl (hb hby own_d6_92) rfl rfl (XS.bipush S69.here hx rfl (hb hby own_d6_93) (XS.bipush S69.here hx rfl (hb hby own_d6_95) q))) ?_
  show G T69 (mkF m 97 #[iv 0] [(.int 103), (.int 15), (.ref x54), (.ref x54)])
  refine Own.Sit.stC hG S69 hx V69 ga_x54 ⟨by decide, by decide⟩ 15 rfl (Nat.le_of_ble_eq_true rfl) rfl rfl (hb hby own_d6_97) (fun T70 h70 S70 J70 (V70 : Arv Z h70 x54 k54 .char (26 : Int32) (List.map Value.int (104::116::116::112::58::47::47::119::119::119::46::108::111::99::46::103::0::0::0::0::0::0::0::0::0::0::[])) (.int 0)) => ?_)
  refine hG.st (fun t q => XS.dup S70.here hx rfl (hb hby own_d6_98) rfl rfl (XS.bipush S70.here hx rfl (hb hby own_d6_99) (XS.bipush S70.here hx rfl (hb hby own_d6_101) q))) ?_
  show G T70 (mkF m 103 #[iv 0] [(.int 111), (.int 16), (.ref x54), (.ref x54)])
  refine Own.Sit.stC hG S70 hx V70 ga_x54 ⟨by decide, by decide⟩ 16 rfl (Nat.le_of_ble_eq_true rfl) rfl rfl (hb hby own_d6_103) (fun T71 h71 S71 J71 (V71 : Arv Z h71 x54 k54 .char (26 : Int32) (List.map Value.int (104::116::116::112::58::47::47::119::119::119::46::108::111::99::46::103::111::0::0::0::0::0::0::0::0::0::[])) (.int 0)) => ?_)
  refine hG.st (fun t q => XS.dup S71.here hx rfl (hb hby own_d6_104) rfl rfl (XS.bipush S71.here hx rfl (hb hby own_d6_105) (XS.bipush S71.here hx rfl (hb hby own_d6_107) q))) ?_
  show G T71 (mkF m 109 #[iv 0] [(.int 118), (.int 17), (.ref x54), (.ref x54)])
  refine Own.Sit.stC hG S71 hx V71 ga_x54 ⟨by decide, by decide⟩ 17 rfl (Nat.le_of_ble_eq_true rfl) rfl rfl (hb hby own_d6_109) (fun T72 h72 S72 J72 (V72 : Arv Z h72 x54 k54 .char (26 : Int32) (List.map Value.int (104::116::116::112::58::47::47::119::119::119::46::108::111::99::46::103::111::118::0::0::0::0::0::0::0::0::[])) (.int 0)) => ?_)
  refine hG.st (fun t q => XS.dup S72.here hx rfl (hb hby own_d6_110) rfl rfl (XS.bipush S72.here hx rfl (hb hby own_d6_111) (XS.bipush S72.here hx rfl (hb hby own_d6_113) q))) ?_
  show G T72 (mkF m 115 #[iv 0] [(.int 47), (.int 18), (.ref x54), (.ref x54)])
  refine Own.Sit.stC hG S72 hx V72 ga_x54 ⟨by decide, by decide⟩ 18 rfl (Nat.le_of_ble_eq_true rfl) rfl rfl (hb hby own_d6_115) (fun T73 h73 S73 J73 (V73 : Arv Z h73 x54 k54 .char (26 : Int32) (List.map Value.int (104::116::116::112::58::47::47::119::119::119::46::108::111::99::46::103::111::118::47::0::0::0::0::0::0::0::[])) (.int 0)) => ?_)
  refine hG.st (fun t q => XS.dup S73.here hx rfl (hb hby own_d6_116) rfl rfl (XS.bipush S73.here hx rfl (hb hby own_d6_117) (XS.bipush S73.here hx rfl (hb hby own_d6_119) q))) ?_
  show G T73 (mkF m 121 #[iv 0] [(.int 109), (.int 19), (.ref x54), (.ref x54)])
  refine Own.Sit.stC hG S73 hx V73 ga_x54 ⟨by decide, by decide⟩ 19 rfl (Nat.le_of_ble_eq_true rfl) rfl rfl (hb hby own_d6_121) (fun T74 h74 S74 J74 (V74 : Arv Z h74 x54 k54 .char (26 : Int32) (List.map Value.int (104::116::116::112::58::47::47::119::119::119::46::108::111::99::46::103::111::118::47::109::0::0::0::0::0::0::[])) (.int 0)) => ?_)
  refine hG.st (fun t q => XS.dup S74.here hx rfl (hb hby own_d6_122) rfl rfl (XS.bipush S74.here hx rfl (hb hby own_d6_123) (XS.bipush S74.here hx rfl (hb hby own_d6_125) q))) ?_
  show G T74 (mkF m 127 #[iv 0] [(.int 111), (.int 20), (.ref x54), (.ref x54)])
  refine Own.Sit.stC hG S74 hx V74 ga_x54 ⟨by decide, by decide⟩ 20 rfl (Nat.le_of_ble_eq_true rfl) rfl rfl (hb hby own_d6_127) (fun T75 h75 S75 J75 (V75 : Arv Z h75 x54 k54 .char (26 : Int32) (List.map Value.int (104::116::116::112::58::47::47::119::119::119::46::108::111::99::46::103::111::118::47::109::111::0::0::0::0::0::[])) (.int 0)) => ?_)
  refine hG.st (fun t q => XS.dup S75.here hx rfl (hb hby own_d6_128) rfl rfl (XS.bipush S75.here hx rfl (hb hby own_d6_129) (XS.bipush S75.here hx rfl (hb hby own_d6_131) q))) ?_
  show G T75 (mkF m 133 #[iv 0] [(.int 100), (.int 21), (.ref x54), (.ref x54)])
  refine Own.Sit.stC hG S75 hx V75 ga_x54 ⟨by decide, by decide⟩ 21 rfl (Nat.le_of_ble_eq_true rfl) rfl rfl (hb hby own_d6_133) (fun T76 h76 S76 J76 (V76 : Arv Z h76 x54 k54 .char (26 : Int32) (List.map Value.int (104::116::116::112::58::47::47::119::119::119::46::108::111::99::46::103::111::118::47::109::111::100::0::0::0::0::[])) (.int 0)) => ?_)
  refine hG.st (fun t q => XS.dup S76.here hx rfl (hb hby own_d6_134) rfl rfl (XS.bipush S76.here hx rfl (hb hby own_d6_135) (XS.bipush S76.here hx rfl (hb hby own_d6_137) q))) ?_
  show G T76 (mkF m 139 #[iv 0] [(.int 115), (.int 22), (.ref x54), (.ref x54)])
  refine Own.Sit.stC hG S76 hx V76 ga_x54 ⟨by decide, by decide⟩ 22 rfl (Nat.le_of_ble_eq_true rfl) rfl rfl (hb hby own_d6_139) (fun T77 h77 S77 J77 (V77 : Arv Z h77 x54 k54 .char (26 : Int32) (List.map Value.int (104::116::116::112::58::47::47::119::119::119::46::108::111::99::46::103::111::118::47::109::111::100::115::0::0::0::[])) (.int 0)) => ?_)
  refine hG.st (fun t q => XS.dup S77.here hx rfl (hb hby own_d6_140) rfl rfl (XS.bipush S77.here hx rfl (hb hby own_d6_141) (XS.bipush S77.here hx rfl (hb hby own_d6_143) q))) ?_
  show G T77 (mkF m 145 #[iv 0] [(.int 47), (.int 23), (.ref x54), (.ref x54)])
  refine Own.Sit.stC hG S77 hx V77 ga_x54 ⟨by decide, by decide⟩ 23 rfl (Nat.le_of_ble_eq_true rfl) rfl rfl (hb hby own_d6_145) (fun T78 h78 S78 J78 (V78 : Arv Z h78 x54 k54 .char (26 : Int32) (List.map Value.int (104::116::116::112::58::47::47::119::119::119::46::108::111::99::46::103::111::118::47::109::111::100::115::47::0::0::[])) (.int 0)) => ?_)
  refine hG.st (fun t q => XS.dup S78.here hx rfl (hb hby own_d6_146) rfl rfl (XS.bipush S78.here hx rfl (hb hby own_d6_147) (XS.bipush S78.here hx rfl (hb hby own_d6_149) q))) ?_
  show G T78 (mkF m 151 #[iv 0] [(.int 118), (.int 24), (.ref x54), (.ref x54)])
  refine Own.Sit.stC hG S78 hx V78 ga_x54 ⟨by decide, by decide⟩ 24 rfl (Nat.le_of_ble_eq_true rfl) rfl rfl (hb hby own_d6_151) (fun T79 h79 S79 J79 (V79 : Arv Z h79 x54 k54 .char (26 : Int32) (List.map Value.int (104::116::116::112::58::47::47::119::119::119::46::108::111::99::46::103::111::118::47::109::111::100::115::47::118::0::[])) (.int 0)) => ?_)
  refine hG.st (fun t q => XS.dup S79.here hx rfl (hb hby own_d6_152) rfl rfl (XS.bipush S79.here hx rfl (hb hby own_d6_153) (XS.bipush S79.here hx rfl (hb hby own_d6_155) q))) ?_
  show G T79 (mkF m 157 #[iv 0] [(.int 51), (.int 25), (.ref x54), (.ref x54)])
  refine Own.Sit.stC hG S79 hx V79 ga_x54 ⟨by decide, by decide⟩ 25 rfl (Nat.le_of_ble_eq_true rfl) rfl rfl (hb hby own_d6_157) (fun T80 h80 S80 J80 (V80 : Arv Z h80 x54 k54 .char (26 : Int32) (List.map Value.int (104::116::116::112::58::47::47::119::119::119::46::108::111::99::46::103::111::118::47::109::111::100::115::47::118::51::[])) (.int 0)) => ?_)
  have J81 : Own.Stp Z consts_1 vm0 h0 vm0 h55 [] := Own.Stp.trans J54 J55 (all0) (allS (Or.inr (Nat.le_of_eq g_x54.symm)) all0)
  have J82 : Own.Stp Z consts_1 vm0 h0 vm0 h56 [] := Own.Stp.trans J81 J56 (all0) (allS (Or.inr (Nat.le_of_eq g_x54.symm)) all0)
  have J83 : Own.Stp Z consts_1 vm0 h0 vm0 h57 [] := Own.Stp.trans J82 J57 (all0) (allS (Or.inr (Nat.le_of_eq g_x54.symm)) all0)
  have J84 : Own.Stp Z consts_1 vm0 h0 vm0 h58 [] := Own.Stp.trans J83 J58 (all0) (allS (Or.inr (Nat.le_of_eq g_x54.symm)) all0)
  have J85 : Own.Stp Z consts_1 vm0 h0 vm0 h59 [] := Own.Stp.trans J84 J59 (all0) (allS (Or.inr (Nat.le_of_eq g_x54.symm)) all0)
  have J86 : Own.Stp Z consts_1 vm0 h0 vm0 h60 [] := Own.Stp.trans J85 J60 (all0) (allS (Or.inr (Nat.le_of_eq g_x54.symm)) all0)
  have J87 : Own.Stp Z consts_1 vm0 h0 vm0 h61 [] := Own.Stp.trans J86 J61 (all0) (allS (Or.inr (Nat.le_of_eq g_x54.symm)) all0)
  have J88 : Own.Stp Z consts_1 vm0 h0 vm0 h62 [] := Own.Stp.trans J87 J62 (all0) (allS (Or.inr (Nat.le_of_eq g_x54.symm)) all0)
  have J89 : Own.Stp Z consts_1 vm0 h0 vm0 h63 [] := Own.Stp.trans J88 J63 (all0) (allS (Or.inr (Nat.le_of_eq g_x54.symm)) all0)
  have J90 : Own.Stp Z consts_1 vm0 h0 vm0 h64 [] := Own.Stp.trans J89 J64 (all0) (allS (Or.inr (Nat.le_of_eq g_x54.symm)) all0)
  have J91 : Own.Stp Z consts_1 vm0 h0 vm0 h65 [] := Own.Stp.trans J90 J65 (all0) (allS (Or.inr (Nat.le_of_eq g_x54.symm)) all0)
  have J92 : Own.Stp Z consts_1 vm0 h0 vm0 h66 [] := Own.Stp.trans J91 J66 (all0) (allS (Or.inr (Nat.le_of_eq g_x54.symm)) all0)
  have J93 : Own.Stp Z consts_1 vm0 h0 vm0 h67 [] := Own.Stp.trans J92 J67 (all0) (allS (Or.inr (Nat.le_of_eq g_x54.symm)) all0)
  have J94 : Own.Stp Z consts_1 vm0 h0 vm0 h68 [] := Own.Stp.trans J93 J68 (all0) (allS (Or.inr (Nat.le_of_eq g_x54.symm)) all0)
  have J95 : Own.Stp Z consts_1 vm0 h0 vm0 h69 [] := Own.Stp.trans J94 J69 (all0) (allS (Or.inr (Nat.le_of_eq g_x54.symm)) all0)
  have J96 : Own.Stp Z consts_1 vm0 h0 vm0 h70 [] := Own.Stp.trans J95 J70 (all0) (allS (Or.inr (Nat.le_of_eq g_x54.symm)) all0)
  have J97 : Own.Stp Z consts_1 vm0 h0 vm0 h71 [] := Own.Stp.trans J96 J71 (all0) (allS (Or.inr (Nat.le_of_eq g_x54.symm)) all0)
  have J98 : Own.Stp Z consts_1 vm0 h0 vm0 h72 [] := Own.Stp.trans J97 J72 (all0) (allS (Or.inr (Nat.le_of_eq g_x54.symm)) all0)
  have J99 : Own.Stp Z consts_1 vm0 h0 vm0 h73 [] := Own.Stp.trans J98 J73 (all0) (allS (Or.inr (Nat.le_of_eq g_x54.symm)) all0)
  have J100 : Own.Stp Z consts_1 vm0 h0 vm0 h74 [] := Own.Stp.trans J99 J74 (all0) (allS (Or.inr (Nat.le_of_eq g_x54.symm)) all0)
  have J101 : Own.Stp Z consts_1 vm0 h0 vm0 h75 [] := Own.Stp.trans J100 J75 (all0) (allS (Or.inr (Nat.le_of_eq g_x54.symm)) all0)
  have J102 : Own.Stp Z consts_1 vm0 h0 vm0 h76 [] := Own.Stp.trans J101 J76 (all0) (allS (Or.inr (Nat.le_of_eq g_x54.symm)) all0)
  have J103 : Own.Stp Z consts_1 vm0 h0 vm0 h77 [] := Own.Stp.trans J102 J77 (all0) (allS (Or.inr (Nat.le_of_eq g_x54.symm)) all0)
  have J104 : Own.Stp Z consts_1 vm0 h0 vm0 h78 [] := Own.Stp.trans J103 J78 (all0) (allS (Or.inr (Nat.le_of_eq g_x54.symm)) all0)
  have J105 : Own.Stp Z consts_1 vm0 h0 vm0 h79 [] := Own.Stp.trans J104 J79 (all0) (allS (Or.inr (Nat.le_of_eq g_x54.symm)) all0)
  have J106 : Own.Stp Z consts_1 vm0 h0 vm0 h80 [] := Own.Stp.trans J105 J80 (all0) (allS (Or.inr (Nat.le_of_eq g_x54.symm)) all0)
  show G T80 (mkF m 158 #[iv 0] [(.ref x54)])
  exact Own.Sit.retO hR S80 hx hret rfl (Or.inr (Or.inr (Or.inr (Or.inr ⟨rfl, rfl, rfl⟩)))) (hb hby own_d6_158) (by decide) (by decide) ⟨J106.1, x54, _, rfl, (Nat.le_of_eq g_x54.symm), V80⟩
theorem own_d6_159 : decode method_2_code 159 = .ok (.iload_n 0, 1) := by decide +kernel
theorem own_d6_160 : decode method_2_code 160 = .ok (.iconst 1, 1) := by decide +kernel
theorem own_d6_161 : decode method_2_code 161 = .ok (.if_icmp .ne 218, 3) := by decide +kernel
theorem own_d6_164 : decode method_2_code 164 = .ok (.bipush 36, 2) := by decide +kernel
theorem own_d6_166 : decode method_2_code 166 = .ok (.newarray .char, 2) := by decide +kernel
theorem own_d6_168 : decode method_2_code 168 = .ok (.dup, 1) := by decide +kernel
theorem own_d6_169 : decode method_2_code 169 = .ok (.iconst 0, 1) := by decide +kernel
theorem own_d6_170 : decode method_2_code 170 = .ok (.bipush 104, 2) := by decide +kernel
theorem own_d6_172 : decode method_2_code 172 = .ok (.castore, 1) := by decide +kernel
theorem own_d6_173 : decode method_2_code 173 = .ok (.dup, 1) := by decide +kernel
theorem own_d6_174 : decode method_2_code 174 = .ok (.iconst 1, 1) := by decide +kernel
theorem own_d6_175 : decode method_2_code 175 = .ok (.bipush 116, 2) := by decide +kernel
theorem own_d6_177 : decode method_2_code 177 = .ok (.castore, 1) := by decide +kernel
theorem own_d6_178 : decode method_2_code 178 = .ok (.dup, 1) := by decide +kernel
theorem own_d6_179 : decode method_2_code 179 = .ok (.iconst 2, 1) := by decide +kernel
theorem own_d6_180 : decode method_2_code 180 = .ok (.bipush 116, 2) := by decide +kernel
theorem own_d6_182 : decode method_2_code 182 = .ok (.castore, 1) := by decide +kernel
theorem own_d6_183 : decode method_2_code 183 = .ok (.dup, 1) := by decide +kernel
theorem own_d6_184 : decode method_2_code 184 = .ok (.iconst 3, 1) := by decide +kernel
theorem own_d6_185 : decode method_2_code 185 = .ok (.bipush 112, 2) := by decide +kernel
theorem own_d6_187 : decode method_2_code 187 = .ok (.castore, 1) := by decide +kernel
theorem own_d6_188 : decode method_2_code 188 = .ok (.dup, 1) := by decide +kernel
theorem own_d6_189 : decode method_2_code 189 = .ok (.iconst 4, 1) := by decide +kernel
theorem own_d6_190 : decode method_2_code 190 = .ok (.bipush 58, 2) := by decide +kernel
theorem own_d6_192 : decode method_2_code 192 = .ok (.castore, 1) := by decide +kernel
theorem own_d6_193 : decode method_2_code 193 = .ok (.dup, 1) := by decide +kernel
theorem own_d6_194 : decode method_2_code 194 = .ok (.iconst 5, 1) := by decide +kernel
theorem own_d6_195 : decode method_2_code 195 = .ok (.bipush 47, 2) := by decide +kernel
theorem own_d6_197 : decode method_2_code 197 = .ok (.castore, 1) := by decide +kernel
theorem own_d6_198 : decode method_2_code 198 = .ok (.dup, 1) := by decide +kernel
theorem own_d6_199 : decode method_2_code 199 = .ok (.bipush 6, 2) := by decide +kernel
theorem own_d6_201 : decode method_2_code 201 = .ok (.bipush 47, 2) := by decide +kernel
theorem own_d6_203 : decode method_2_code 203 = .ok (.castore, 1) := by decide +kernel
theorem own_d6_204 : decode method_2_code 204 = .ok (.dup, 1) := by decide +kernel
theorem own_d6_205 : decode method_2_code 205 = .ok (.bipush 7, 2) := by decide +kernel
theorem own_d6_207 : decode method_2_code 207 = .ok (.bipush 119, 2) := by decide +kernel
theorem own_d6_209 : decode method_2_code 209 = .ok (.castore, 1) := by decide +kernel
theorem own_d6_210 : decode method_2_code 210 = .ok (.dup, 1) := by decide +kernel
theorem own_d6_211 : decode method_2_code 211 = .ok (.bipush 8, 2) := by decide +kernel
theorem own_d6_213 : decode method_2_code 213 = .ok (.bipush 119, 2) := by decide +kernel
theorem own_d6_215 : decode method_2_code 215 = .ok (.castore, 1) := by decide +kernel
theorem own_d6_216 : decode method_2_code 216 = .ok (.dup, 1) := by decide +kernel
theorem own_d6_217 : decode method_2_code 217 = .ok (.bipush 9, 2) := by decide +kernel
theorem own_d6_219 : decode method_2_code 219 = .ok (.bipush 119, 2) := by decide +kernel
theorem own_d6_221 : decode method_2_code 221 = .ok (.castore, 1) := by decide +kernel
theorem own_d6_222 : decode method_2_code 222 = .ok (.dup, 1) := by decide +kernel
theorem own_d6_223 : decode method_2_code 223 = .ok (.bipush 10, 2) := by decide +kernel
theorem own_d6_225 : decode method_2_code 225 = .ok (.bipush 46, 2) := by decide +kernel
theorem own_d6_227 : decode method_2_code 227 = .ok (.castore, 1) := by decide +kernel
theorem own_d6_228 : decode method_2_code 228 = .ok (.dup, 1) := by decide +kernel
theorem own_d6_229 : decode method_2_code 229 = .ok (.bipush 11, 2) := by decide +kernel
theorem own_d6_231 : decode method_2_code 231 = .ok (.bipush 111, 2) := by decide +kernel
theorem own_d6_233 : decode method_2_code 233 = .ok (.castore, 1) := by decide +kernel
theorem own_d6_234 : decode method_2_code 234 = .ok (.dup, 1) := by decide +kernel
theorem own_d6_235 : decode method_2_code 235 = .ok (.bipush 12, 2) := by decide +kernel
theorem own_d6_237 : decode method_2_code 237 = .ok (.bipush 112, 2) := by decide +kernel
theorem own_d6_239 : decode method_2_code 239 = .ok (.castore, 1) := by decide +kernel
theorem own_d6_240 : decode method_2_code 240 = .ok (.dup, 1) := by decide +kernel
theorem own_d6_241 : decode method_2_code 241 = .ok (.bipush 13, 2) := by decide +kernel
theorem own_d6_243 : decode method_2_code 243 = .ok (.bipush 101, 2) := by decide +kernel
theorem own_d6_245 : decode method_2_code 245 = .ok (.castore, 1) := by decide +kernel
theorem own_d6_246 : decode method_2_code 246 = .ok (.dup, 1) := by decide +kernel
theorem own_d6_247 : decode method_2_code 247 = .ok (.bipush 14, 2) := by decide +kernel
theorem own_d6_249 : decode method_2_code 249 = .ok (.bipush 110, 2) := by decide +kernel
theorem own_d6_251 : decode method_2_code 251 = .ok (.castore, 1) := by decide +kernel
theorem own_d6_252 : decode method_2_code 252 = .ok (.dup, 1) := by decide +kernel
theorem own_d6_253 : decode method_2_code 253 = .ok (.bipush 15, 2) := by decide +kernel
theorem own_d6_255 : decode method_2_code 255 = .ok (.bipush 97, 2) := by decide +kernel
theorem own_d6_257 : decode method_2_code 257 = .ok (.castore, 1) := by decide +kernel
theorem own_d6_258 : decode method_2_code 258 = .ok (.dup, 1) := by decide +kernel
theorem own_d6_259 : decode method_2_code 259 = .ok (.bipush 16, 2) := by decide +kernel
theorem own_d6_261 : decode method_2_code 261 = .ok (.bipush 114, 2) := by decide +kernel
theorem own_d6_263 : decode method_2_code 263 = .ok (.castore, 1) := by decide +kernel
theorem own_d6_264 : decode method_2_code 264 = .ok (.dup, 1) := by decide +kernel
theorem own_d6_265 : decode method_2_code 265 = .ok (.bipush 17, 2) := by decide +kernel
theorem own_d6_267 : decode method_2_code 267 = .ok (.bipush 99, 2) := by decide +kernel
theorem own_d6_269 : decode method_2_code 269 = .ok (.castore, 1) := by decide +kernel
theorem own_d6_270 : decode method_2_code 270 = .ok (.dup, 1) := by decide +kernel
theorem own_d6_271 : decode method_2_code 271 = .ok (.bipush 18, 2) := by decide +kernel
theorem own_d6_273 : decode method_2_code 273 = .ok (.bipush 104, 2) := by decide +kernel
theorem own_d6_275 : decode method_2_code 275 = .ok (.castore, 1) := by decide +kernel
theorem own_d6_276 : decode method_2_code 276 = .ok (.dup, 1) := by decide +kernel
theorem own_d6_277 : decode method_2_code 277 = .ok (.bipush 19, 2) := by decide +kernel
theorem own_d6_279 : decode method_2_code 279 = .ok (.bipush 105, 2) := by decide +kernel
theorem own_d6_281 : decode method_2_code 281 = .ok (.castore, 1) := by decide +kernel
theorem own_d6_282 : decode method_2_code 282 = .ok (.dup, 1) := by decide +kernel
theorem own_d6_283 : decode method_2_code 283 = .ok (.bipush 20, 2) := by decide +kernel
theorem own_d6_285 : decode method_2_code 285 = .ok (.bipush 118, 2) := by decide +kernel
theorem own_d6_287 : decode method_2_code 287 = .ok (.castore, 1) := by decide +kernel
theorem own_d6_288 : decode method_2_code 288 = .ok (.dup, 1) := by decide +kernel
theorem own_d6_289 : decode method_2_code 289 = .ok (.bipush 21, 2) := by decide +kernel
theorem own_d6_291 : decode method_2_code 291 = .ok (.bipush 101, 2) := by decide +kernel
theorem own_d6_293 : decode method_2_code 293 = .ok (.castore, 1) := by decide +kernel
theorem own_d6_294 : decode method_2_code 294 = .ok (.dup, 1) := by decide +kernel
theorem own_d6_295 : decode method_2_code 295 = .ok (.bipush 22, 2) := by decide +kernel
theorem own_d6_297 : decode method_2_code 297 = .ok (.bipush 115, 2) := by decide +kernel
theorem own_d6_299 : decode method_2_code 299 = .ok (.castore, 1) := by decide +kernel
theorem own_d6_300 : decode method_2_code 300 = .ok (.dup, 1) := by decide +kernel
theorem own_d6_301 : decode method_2_code 301 = .ok (.bipush 23, 2) := by decide +kernel
theorem own_d6_303 : decode method_2_code 303 = .ok (.bipush 46, 2) := by decide +kernel
theorem own_d6_305 : decode method_2_code 305 = .ok (.castore, 1) := by decide +kernel
theorem own_d6_306 : decode method_2_code 306 = .ok (.dup, 1) := by decide +kernel
theorem own_d6_307 : decode method_2_code 307 = .ok (.bipush 24, 2) := by decide +kernel
theorem own_d6_309 : decode method_2_code 309 = .ok (.bipush 111, 2) := by decide +kernel
theorem own_d6_311 : decode method_2_code 311 = .ok (.castore, 1) := by decide +kernel
theorem own_d6_312 : decode method_2_code 312 = .ok (.dup, 1) := by decide +kernel
theorem own_d6_313 : decode method_2_code 313 = .ok (.bipush 25, 2) := by decide +kernel
theorem own_d6_315 : decode method_2_code 315 = .ok (.bipush 114, 2) := by decide +kernel
theorem own_d6_317 : decode method_2_code 317 = .ok (.castore, 1) := by decide +kernel
theorem own_d6_318 : decode method_2_code 318 = .ok (.dup, 1) := by decide +kernel
theorem own_d6_319 : decode method_2_code 319 = .ok (.bipush 26, 2) := by decide +kernel
theorem own_d6_321 : decode method_2_code 321 = .ok (.bipush 103, 2) := by decide +kernel
theorem own_d6_323 : decode method_2_code 323 = .ok (.castore, 1) := by decide +kernel
theorem own_d6_324 : decode method_2_code 324 = .ok (.dup, 1) := by decide +kernel
theorem own_d6_325 : decode method_2_code 325 = .ok (.bipush 27, 2) := by decide +kernel
theorem own_d6_327 : decode method_2_code 327 = .ok (.bipush 47, 2) := by decide +kernel
theorem own_d6_329 : decode method_2_code 329 = .ok (.castore, 1) := by decide +kernel
theorem own_d6_330 : decode method_2_code 330 = .ok (.dup, 1) := by decide +kernel
theorem own_d6_331 : decode method_2_code 331 = .ok (.bipush 28, 2) := by decide +kernel
theorem own_d6_333 : decode method_2_code 333 = .ok (.bipush 79, 2) := by decide +kernel
theorem own_d6_335 : decode method_2_code 335 = .ok (.castore, 1) := by decide +kernel
theorem own_d6_336 : decode method_2_code 336 = .ok (.dup, 1) := by decide +kernel
theorem own_d6_337 : decode method_2_code 337 = .ok (.bipush 29, 2) := by decide +kernel
theorem own_d6_339 : decode method_2_code 339 = .ok (.bipush 65, 2) := by decide +kernel
theorem own_d6_341 : decode method_2_code 341 = .ok (.castore, 1) := by decide +kernel
theorem own_d6_342 : decode method_2_code 342 = .ok (.dup, 1) := by decide +kernel
theorem own_d6_343 : decode method_2_code 343 = .ok (.bipush 30, 2) := by decide +kernel
theorem own_d6_345 : decode method_2_code 345 = .ok (.bipush 73, 2) := by decide +kernel
theorem own_d6_347 : decode method_2_code 347 = .ok (.castore, 1) := by decide +kernel
theorem own_d6_348 : decode method_2_code 348 = .ok (.dup, 1) := by decide +kernel
theorem own_d6_349 : decode method_2_code 349 = .ok (.bipush 31, 2) := by decide +kernel
theorem own_d6_351 : decode method_2_code 351 = .ok (.bipush 47, 2) := by decide +kernel
theorem own_d6_353 : decode method_2_code 353 = .ok (.castore, 1) := by decide +kernel
theorem own_d6_354 : decode method_2_code 354 = .ok (.dup, 1) := by decide +kernel
theorem own_d6_355 : decode method_2_code 355 = .ok (.bipush 32, 2) := by decide +kernel
theorem own_d6_357 : decode method_2_code 357 = .ok (.bipush 50, 2) := by decide +kernel
theorem own_d6_359 : decode method_2_code 359 = .ok (.castore, 1) := by decide +kernel
theorem own_d6_360 : decode method_2_code 360 = .ok (.dup, 1) := by decide +kernel
theorem own_d6_361 : decode method_2_code 361 = .ok (.bipush 33, 2) := by decide +kernel
theorem own_d6_363 : decode method_2_code 363 = .ok (.bipush 46, 2) := by decide +kernel
theorem own_d6_365 : decode method_2_code 365 = .ok (.castore, 1) := by decide +kernel
theorem own_d6_366 : decode method_2_code 366 = .ok (.dup, 1) := by decide +kernel
theorem own_d6_367 : decode method_2_code 367 = .ok (.bipush 34, 2) := by decide +kernel
theorem own_d6_369 : decode method_2_code 369 = .ok (.bipush 48, 2) := by decide +kernel
theorem own_d6_371 : decode method_2_code 371 = .ok (.castore, 1) := by decide +kernel
theorem own_d6_372 : decode method_2_code 372 = .ok (.dup, 1) := by decide +kernel
theorem own_d6_373 : decode method_2_code 373 = .ok (.bipush 35, 2) := by decide +kernel
theorem own_d6_375 : decode method_2_code 375 = .ok (.bipush 47, 2) := by decide +kernel
theorem own_d6_377 : decode method_2_code 377 = .ok (.castore, 1) := by decide +kernel
theorem own_d6_378 : decode method_2_code 378 = .ok (.areturn, 1) := by decide +kernel
theorem own_ef_own_ns1 (m : MethodId)  : entryFrame m #[(.int 1)] 1 = mkF m 0 #[iv 1] [] := by first | (simp [entryFrame, mkF, argsToLocals, Value.category]; done) | rfl
set_option maxRecDepth 65536 in
set_option maxHeartbeats 40000000 in
theorem own_ns1 (l : Launch) (Z : State) (a0 : Array Value) (H : own_Wld Z a0) {cw : List Jvm.Cond}  (h0 : Heap) (O0 : Ext Z.heap h0) :
    Own.Con l Z consts_1 (⟨"com/example/scholiast/scholiast/ModsReaderNeedsChildElementPinLaw", "nsChars", "(I)[C"⟩ : MethodName) method_2_code 1 (some (.array .char)) cw ({ frames := 0, cells := 1, slots := 36, locals := 0 } : Room) #[(.int 1)] h0 (fun v h => Keep h0 h [] ∧ ∃ x kc, v = some (.ref x) ∧ h0.size ≤ x ∧ Arv Z h x kc .char (36 : Int32) (own_L1.map Value.int) (.int 0)) := by
  have hw := H.1
  have hW := fun (i : Nat) (w : Jvm.Cond) (e : tables_1[i]? = some w) => hw w (List.mem_of_getElem? e)
  have hCm := H.2.1
  have hSi := H.2.2.1
  have hEL := H.2.2.2
  have hWs : ∀ d ∈ StrChars.Road.words, d.before a0 Z = true := fun d hd => hw d (own_wbackV d hd)
  have hWe : ∀ d ∈ StrChars.Road.wordsEq, d.before a0 Z = true := fun d hd => hw d (own_weqW d hd)
  have hSA : ∀ d ∈ Bundle.stringAtoms, d.before a0 Z = true := fun d hd => hw d (own_wSA d hd)
  refine Own.Con.of own_pnb9cc79 hEL O0 ?_
  intro p e s m below meth c T0 G vm0 hx hby hml hret hnm hG hR S0
  have hz : ∀ L : Array Slot, L.size = 1 → L.size = c.maxLocals := fun L q => q.trans hml.symm
  rw [own_ef_own_ns1]
  show G T0 (mkF m 0 #[iv 1] [])
  refine hG.st (fun t q => XS.iloadN S0.here hx rfl (hb hby own_d6_0) rfl (XS.ifYes S0.here hx rfl (pc0 := 1) (pc' := 159) rfl (hb hby own_d6_1) rfl ((if0 _ _).trans (feq (by decide : ¬ ((1 : Int32) = (0 : Int32)))).2) (by decide) (by decide) (XS.iloadN S0.here hx rfl (hb hby own_d6_159) rfl (XS.iconst S0.here hx rfl (hb hby own_d6_160) (XS.icmpNo S0.here hx rfl (hb hby own_d6_161) rfl (teq (by decide : (1 : Int32) = (1 : Int32))).2 (XS.bipush S0.here hx rfl (hb hby own_d6_164) q)))))) ?_
  show G T0 (mkF m 166 #[iv 1] [(.int 36)])
  refine Own.Sit.newP hG S0 hx (aty := .char) (hW 4 _ rfl) rfl (hb hby own_d6_166) rfl (by decide) (cap := 36) (by decide) (by decide) (by decide) (by decide) (fun T107 h107 x107 k107 g_x107 S107 J107 Sf107 (V107 : Arv Z h107 x107 k107 .char (36 : Int32) (List.map Value.int (0::0::0::0::0::0::0::0::0::0::0::0::0::0::0::0::0::0::0::0::0::0::0::0::0::0::0::0::0::0::0::0::0::0::0::0::[])) (.int 0)) => ?_)
  have lt_x107 := V107.lt
  have ga_x107 : Z.heap.size ≤ x107 := Nat.le_trans S0.le (Nat.le_of_eq g_x107.symm)
  refine hG.st (fun t q => XS.dup S107.here hx rfl (hb hby own_d6_168) rfl rfl (XS.iconst S107.here hx rfl (hb hby own_d6_169) (XS.bipush S107.here hx rfl (hb hby own_d6_170) q))) ?_
  show G T107 (mkF m 172 #[iv 1] [(.int 104), (.int 0), (.ref x107), (.ref x107)])
  refine Own.Sit.stC hG S107 hx V107 ga_x107 ⟨by decide, by decide⟩ 0 rfl (Nat.le_of_ble_eq_true rfl) rfl rfl (hb hby own_d6_172) (fun T108 h108 S108 J108 (V108 : Arv Z h108 x107 k107 .char (36 : Int32) (List.map Value.int (104::0::0::0::0::0::0::0::0::0::0::0::0::0::0::0::0::0::0::0::0::0::0::0::0::0::0::0::0::0::0::0::0::0::0::0::[])) (.int 0)) => ?_)
  refine hG.st (fun t q => XS.dup S108.here hx rfl (hb hby own_d6_173) rfl rfl (XS.iconst S108.here hx rfl (hb hby own_d6_174) (XS.bipush S108.here hx rfl (hb hby own_d6_175) q))) ?_
  show G T108 (mkF m 177 #[iv 1] [(.int 116), (.int 1), (.ref x107), (.ref x107)])
  refine Own.Sit.stC hG S108 hx V108 ga_x107 ⟨by decide, by decide⟩ 1 rfl (Nat.le_of_ble_eq_true rfl) rfl rfl (hb hby own_d6_177) (fun T109 h109 S109 J109 (V109 : Arv Z h109 x107 k107 .char (36 : Int32) (List.map Value.int (104::116::0::0::0::0::0::0::0::0::0::0::0::0::0::0::0::0::0::0::0::0::0::0::0::0::0::0::0::0::0::0::0::0::0::0::[])) (.int 0)) => ?_)
  refine hG.st (fun t q => XS.dup S109.here hx rfl (hb hby own_d6_178) rfl rfl (XS.iconst S109.here hx rfl (hb hby own_d6_179) (XS.bipush S109.here hx rfl (hb hby own_d6_180) q))) ?_
  show G T109 (mkF m 182 #[iv 1] [(.int 116), (.int 2), (.ref x107), (.ref x107)])
  refine Own.Sit.stC hG S109 hx V109 ga_x107 ⟨by decide, by decide⟩ 2 rfl (Nat.le_of_ble_eq_true rfl) rfl rfl (hb hby own_d6_182) (fun T110 h110 S110 J110 (V110 : Arv Z h110 x107 k107 .char (36 : Int32) (List.map Value.int (104::116::116::0::0::0::0::0::0::0::0::0::0::0::0::0::0::0::0::0::0::0::0::0::0::0::0::0::0::0::0::0::0::0::0::0::[])) (.int 0)) => ?_)
  refine hG.st (fun t q => XS.dup S110.here hx rfl (hb hby own_d6_183) rfl rfl (XS.iconst S110.here hx rfl (hb hby own_d6_184) (XS.bipush S110.here hx rfl (hb hby own_d6_185) q))) ?_
  show G T110 (mkF m 187 #[iv 1] [(.int 112), (.int 3), (.ref x107), (.ref x107)])
  refine Own.Sit.stC hG S110 hx V110 ga_x107 ⟨by decide, by decide⟩ 3 rfl (Nat.le_of_ble_eq_true rfl) rfl rfl (hb hby own_d6_187) (fun T111 h111 S111 J111 (V111 : Arv Z h111 x107 k107 .char (36 : Int32) (List.map Value.int (104::116::116::112::0::0::0::0::0::0::0::0::0::0::0::0::0::0::0::0::0::0::0::0::0::0::0::0::0::0::0::0::0::0::0::0::[])) (.int 0)) => ?_)
  refine hG.st (fun t q => XS.dup S111.here hx rfl (hb hby own_d6_188) rfl rfl (XS.iconst S111.here hx rfl (hb hby own_d6_189) (XS.bipush S111.here hx rfl (hb hby own_d6_190) q))) ?_
  show G T111 (mkF m 192 #[iv 1] [(.int 58), (.int 4), (.ref x107), (.ref x107)])
  refine Own.Sit.stC hG S111 hx V111 ga_x107 ⟨by decide, by decide⟩ 4 rfl (Nat.le_of_ble_eq_true rfl) rfl rfl (hb hby own_d6_192) (fun T112 h112 S112 J112 (V112 : Arv Z h112 x107 k107 .char (36 : Int32) (List.map Value.int (104::116::116::112::58::0::0::0::0::0::0::0::0::0::0::0::0::0::0::0::0::0::0::0::0::0::0::0::0::0::0::0::0::0::0::0::[])) (.int 0)) => ?_)
  refine hG.st (fun t q => XS.dup S112.here hx rfl (hb hby own_d6_193) rfl rfl (XS.iconst S112.here hx rfl (hb hby own_d6_194) (XS.bipush S112.here hx rfl (hb hby own_d6_195) q))) ?_
  show G T112 (mkF m 197 #[iv 1] [(.int 47), (.int 5), (.ref x107), (.ref x107)])
  refine Own.Sit.stC hG S112 hx V112 ga_x107 ⟨by decide, by decide⟩ 5 rfl (Nat.le_of_ble_eq_true rfl) rfl rfl (hb hby own_d6_197) (fun T113 h113 S113 J113 (V113 : Arv Z h113 x107 k107 .char (36 : Int32) (List.map Value.int (104::116::116::112::58::47::0::0::0::0::0::0::0::0::0::0::0::0::0::0::0::0::0::0::0::0::0::0::0::0::0::0::0::0::0::0::[])) (.int 0)) => ?_)
  refine hG.st (fun t q => XS.dup S113.here hx rfl (hb hby own_d6_198) rfl rfl (XS.bipush S113.here hx rfl (hb hby own_d6_199) (XS.bipush S113.here hx rfl (hb hby own_d6_201) q))) ?_
  show G T113 (mkF m 203 #[iv 1] [(.int 47), (.int 6), (.ref x107), (.ref x107)])
  refine Own.Sit.stC hG S113 hx V113 ga_x107 ⟨by decide, by decide⟩ 6 rfl (Nat.le_of_ble_eq_true rfl) rfl rfl (hb hby own_d6_203) (fun T114 h114 S114 J114 (V114 : Arv Z h114 x107 k107 .char (36 : Int32) (List.map Value.int (104::116::116::112::58::47::47::0::0::0::0::0::0::0::0::0::0::0::0::0::0::0::0::0::0::0::0::0::0::0::0::0::0::0::0::0::[])) (.int 0)) => ?_)
  refine hG.st (fun t q => XS.dup S114.here hx rfl (hb hby own_d6_204) rfl rfl (XS.bipush S114.here hx rfl (hb hby own_d6_205) (XS.bipush S114.here hx rfl (hb hby own_d6_207) q))) ?_
  show G T114 (mkF m 209 #[iv 1] [(.int 119), (.int 7), (.ref x107), (.ref x107)])
  refine Own.Sit.stC hG S114 hx V114 ga_x107 ⟨by decide, by decide⟩ 7 rfl (Nat.le_of_ble_eq_true rfl) rfl rfl (hb hby own_d6_209) (fun T115 h115 S115 J115 (V115 : Arv Z h115 x107 k107 .char (36 : Int32) (List.map Value.int (104::116::116::112::58::47::47::119::0::0::0::0::0::0::0::0::0::0::0::0::0::0::0::0::0::0::0::0::0::0::0::0::0::0::0::0::[])) (.int 0)) => ?_)
  refine hG.st (fun t q => XS.dup S115.here hx rfl (hb hby own_d6_210) rfl rfl (XS.bipush S115.here hx rfl (hb hby own_d6_211) (XS.bipush S115.here hx rfl (hb hby own_d6_213) q))) ?_
  show G T115 (mkF m 215 #[iv 1] [(.int 119), (.int 8), (.ref x107), (.ref x107)])
  refine Own.Sit.stC hG S115 hx V115 ga_x107 ⟨by decide, by decide⟩ 8 rfl (Nat.le_of_ble_eq_true rfl) rfl rfl (hb hby own_d6_215) (fun T116 h116 S116 J116 (V116 : Arv Z h116 x107 k107 .char (36 : Int32) (List.map Value.int (104::116::116::112::58::47::47::119::119::0::0::0::0::0::0::0::0::0::0::0::0::0::0::0::0::0::0::0::0::0::0::0::0::0::0::0::[])) (.int 0)) => ?_)
  refine hG.st (fun t q => XS.dup S116.here hx rfl (hb hby own_d6_216) rfl rfl (XS.bipush S116.here hx rfl (hb hby own_d6_217) (XS.bipush S116.here hx rfl (hb hby own_d6_219) q))) ?_
  show G T116 (mkF m 221 #[iv 1] [(.int 119), (.int 9), (.ref x107), (.ref x107)])
  refine Own.Sit.stC hG S116 hx V116 ga_x107 ⟨by decide, by decide⟩ 9 rfl (Nat.le_of_ble_eq_true rfl) rfl rfl (hb hby own_d6_221) (fun T117 h117 S117 J117 (V117 : Arv Z h117 x107 k107 .char (36 : Int32) (List.map Value.int (104::116::116::112::58::47::47::119::119::119::0::0::0::0::0::0::0::0::0::0::0::0::0::0::0::0::0::0::0::0::0::0::0::0::0::0::[])) (.int 0)) => ?_)
  refine hG.st (fun t q => XS.dup S117.here hx rfl (hb hby own_d6_222) rfl rfl (XS.bipush S117.here hx rfl (hb hby own_d6_223) (XS.bipush S117.here hx rfl (hb hby own_d6_225) q))) ?_
  show G T117 (mkF m 227 #[iv 1] [(.int 46), (.int 10), (.ref x107), (.ref x107)])
  refine Own.Sit.stC hG S117 hx V117 ga_x107 ⟨by decide, by decide⟩ 10 rfl (Nat.le_of_ble_eq_true rfl) rfl rfl (hb hby own_d6_227) (fun T118 h118 S118 J118 (V118 : Arv Z h118 x107 k107 .char (36 : Int32) (List.map Value.int (104::116::116::112::58::47::47::119::119::119::46::0::0::0::0::0::0::0::0::0::0::0::0::0::0::0::0::0::0::0::0::0::0::0::0::0::[])) (.int 0)) => ?_)
  refine hG.st (fun t q => XS.dup S118.here hx rfl (hb hby own_d6_228) rfl rfl (XS.bipush S118.here hx rfl (hb hby own_d6_229) (XS.bipush S118.here hx rfl (hb hby own_d6_231) q))) ?_
  show G T118 (mkF m 233 #[iv 1] [(.int 111), (.int 11), (.ref x107), (.ref x107)])
  refine Own.Sit.stC hG S118 hx V118 ga_x107 ⟨by decide, by decide⟩ 11 rfl (Nat.le_of_ble_eq_true rfl) rfl rfl (hb hby own_d6_233) (fun T119 h119 S119 J119 (V119 : Arv Z h119 x107 k107 .char (36 : Int32) (List.map Value.int (104::116::116::112::58::47::47::119::119::119::46::111::0::0::0::0::0::0::0::0::0::0::0::0::0::0::0::0::0::0::0::0::0::0::0::0::[])) (.int 0)) => ?_)
  refine hG.st (fun t q => XS.dup S119.here hx rfl (hb hby own_d6_234) rfl rfl (XS.bipush S119.here hx rfl (hb hby own_d6_235) (XS.bipush S119.here hx rfl (hb hby own_d6_237) q))) ?_
  show G T119 (mkF m 239 #[iv 1] [(.int 112), (.int 12), (.ref x107), (.ref x107)])
  refine Own.Sit.stC hG S119 hx V119 ga_x107 ⟨by decide, by decide⟩ 12 rfl (Nat.le_of_ble_eq_true rfl) rfl rfl (hb hby own_d6_239) (fun T120 h120 S120 J120 (V120 : Arv Z h120 x107 k107 .char (36 : Int32) (List.map Value.int (104::116::116::112::58::47::47::119::119::119::46::111::112::0::0::0::0::0::0::0::0::0::0::0::0::0::0::0::0::0::0::0::0::0::0::0::[])) (.int 0)) => ?_)
  refine hG.st (fun t q => XS.dup S120.here hx rfl (hb hby own_d6_240) rfl rfl (XS.bipush S120.here hx rfl (hb hby own_d6_241) (XS.bipush S120.here hx rfl (hb hby own_d6_243) q))) ?_
  show G T120 (mkF m 245 #[iv 1] [(.int 101), (.int 13), (.ref x107), (.ref x107)])
  refine Own.Sit.stC hG S120 hx V120 ga_x107 ⟨by decide, by decide⟩ 13 rfl (Nat.le_of_ble_eq_true rfl) rfl rfl (hb hby own_d6_245) (fun T121 h121 S121 J121 (V121 : Arv Z h121 x107 k107 .char (36 : Int32) (List.map Value.int (104::116::116::112::58::47::47::119::119::119::46::111::112::101::0::0::0::0::0::0::0::0::0::0::0::0::0::0::0::0::0::0::0::0::0::0::[])) (.int 0)) => ?_)
  refine hG.st (fun t q => XS.dup S121.here hx rfl (hb hby own_d6_246) rfl rfl (XS.bipush S121.here hx rfl (hb hby own_d6_247) (XS.bipush S121.here hx rfl (hb hby own_d6_249) q))) ?_
  show G T121 (mkF m 251 #[iv 1] [(.int 110), (.int 14), (.ref x107), (.ref x107)])
  refine Own.Sit.stC hG S121 hx V121 ga_x107 ⟨by decide, by decide⟩ 14 rfl (Nat.le_of_ble_eq_true rfl) rfl rfl (hb hby own_d6_251) (fun T122 h122 S122 J122 (V122 : Arv Z h122 x107 k107 .char (36 : Int32) (List.map Value.int (104::116::116::112::58::47::47::119::119::119::46::111::112::101::110::0::0::0::0::0::0::0::0::0::0::0::0::0::0::0::0::0::0::0::0::0::[])) (.int 0)) => ?_)
  refine hG.st (fun t q => XS.dup S122.here hx rfl (hb hby own_d6_252) rfl rfl (XS.bipush S122.here hx rfl (hb hby own_d6_253) (XS.bipush S122.here hx rfl (hb hby own_d6_255) q))) ?_
  show G T122 (mkF m 257 #[iv 1] [(.int 97), (.int 15), (.ref x107), (.ref x107)])
  refine Own.Sit.stC hG S122 hx V122 ga_x107 ⟨by decide, by decide⟩ 15 rfl (Nat.le_of_ble_eq_true rfl) rfl rfl (hb hby own_d6_257) (fun T123 h123 S123 J123 (V123 : Arv Z h123 x107 k107 .char (36 : Int32) (List.map Value.int (104::116::116::112::58::47::47::119::119::119::46::111::112::101::110::97::0::0::0::0::0::0::0::0::0::0::0::0::0::0::0::0::0::0::0::0::[])) (.int 0)) => ?_)
  refine hG.st (fun t q => XS.dup S123.here hx rfl (hb hby own_d6_258) rfl rfl (XS.bipush S123.here hx rfl (hb hby own_d6_259) (XS.bipush S123.here hx rfl (hb hby own_d6_261) q))) ?_
  show G T123 (mkF m 263 #[iv 1] [(.int 114), (.int 16), (.ref x107), (.ref x107)])
  refine Own.Sit.stC hG S123 hx V123 ga_x107 ⟨by decide, by decide⟩ 16 rfl (Nat.le_of_ble_eq_true rfl) rfl rfl (hb hby own_d6_263) (fun T124 h124 S124 J124 (V124 : Arv Z h124 x107 k107 .char (36 : Int32) (List.map Value.int (104::116::116::112::58::47::47::119::119::119::46::111::112::101::110::97::114::0::0::0::0::0::0::0::0::0::0::0::0::0::0::0::0::0::0::0::[])) (.int 0)) => ?_)
  refine hG.st (fun t q => XS.dup S124.here hx rfl (hb hby own_d6_264) rfl rfl (XS.bipush S124.here hx rfl (hb hby own_d6_265) (XS.bipush S124.here hx rfl (hb hby own_d6_267) q))) ?_
  show G T124 (mkF m 269 #[iv 1] [(.int 99), (.int 17), (.ref x107), (.ref x107)])
  refine Own.Sit.stC hG S124 hx V124 ga_x107 ⟨by decide, by decide⟩ 17 rfl (Nat.le_of_ble_eq_true rfl) rfl rfl (hb hby own_d6_269) (fun T125 h125 S125 J125 (V125 : Arv Z h125 x107 k107 .char (36 : Int32) (List.map Value.int (104::116::116::112::58::47::47::119::119::119::46::111::112::101::110::97::114::99::0::0::0::0::0::0::0::0::0::0::0::0::0::0::0::0::0::0::[])) (.int 0)) => ?_)
  refine hG.st (fun t q => XS.dup S125.here hx rfl (hb hby own_d6_270) rfl rfl (XS.bipush S125.here hx rfl (hb hby own_d6_271) (XS.bipush S125.here hx rfl (hb hby own_d6_273) q))) ?_
  show G T125 (mkF m 275 #[iv 1] [(.int 104), (.int 18), (.ref x107), (.ref x107)])
  refine Own.Sit.stC hG S125 hx V125 ga_x107 ⟨by decide, by decide⟩ 18 rfl (Nat.le_of_ble_eq_true rfl) rfl rfl (hb hby own_d6_275) (fun T126 h126 S126 J126 (V126 : Arv Z h126 x107 k107 .char (36 : Int32) (List.map Value.int (104::116::116::112::58::47::47::119::119::119::46::111::112::101::110::97::114::99::104::0::0::0::0::0::0::0::0::0::0::0::0::0::0::0::0::0::[])) (.int 0)) => ?_)
  refine hG.st (fun t q => XS.dup S126.here hx rfl (hb hby own_d6_276) rfl rfl (XS.bipush S126.here hx rfl (hb hby own_d6_277) (XS.bipush S126.here hx rfl (hb hby own_d6_279) q))) ?_
  show G T126 (mkF m 281 #[iv 1] [(.int 105), (.int 19), (.ref x107), (.ref x107)])
  refine Own.Sit.stC hG S126 hx V126 ga_x107 ⟨by decide, by decide⟩ 19 rfl (Nat.le_of_ble_eq_true rfl) rfl rfl (hb hby own_d6_281) (fun T127 h127 S127 J127 (V127 : Arv Z h127 x107 k107 .char (36 : Int32) (List.map Value.int (104::116::116::112::58::47::47::119::119::119::46::111::112::101::110::97::114::99::104::105::0::0::0::0::0::0::0::0::0::0::0::0::0::0::0::0::[])) (.int 0)) => ?_)
  refine hG.st (fun t q => XS.dup S127.here hx rfl (hb hby own_d6_282) rfl rfl (XS.bipush S127.here hx rfl (hb hby own_d6_283) (XS.bipush S127.here hx rfl (hb hby own_d6_285) q))) ?_
  show G T127 (mkF m 287 #[iv 1] [(.int 118), (.int 20), (.ref x107), (.ref x107)])
  refine Own.Sit.stC hG S127 hx V127 ga_x107 ⟨by decide, by decide⟩ 20 rfl (Nat.le_of_ble_eq_true rfl) rfl rfl (hb hby own_d6_287) (fun T128 h128 S128 J128 (V128 : Arv Z h128 x107 k107 .char (36 : Int32) (List.map Value.int (104::116::116::112::58::47::47::119::119::119::46::111::112::101::110::97::114::99::104::105::118::0::0::0::0::0::0::0::0::0::0::0::0::0::0::0::[])) (.int 0)) => ?_)
  refine hG.st (fun t q => XS.dup S128.here hx rfl (hb hby own_d6_288) rfl rfl (XS.bipush S128.here hx rfl (hb hby own_d6_289) (XS.bipush S128.here hx rfl (hb hby own_d6_291) q))) ?_
  show G T128 (mkF m 293 #[iv 1] [(.int 101), (.int 21), (.ref x107), (.ref x107)])
  refine Own.Sit.stC hG S128 hx V128 ga_x107 ⟨by decide, by decide⟩ 21 rfl (Nat.le_of_ble_eq_true rfl) rfl rfl (hb hby own_d6_293) (fun T129 h129 S129 J129 (V129 : Arv Z h129 x107 k107 .char (36 : Int32) (List.map Value.int (104::116::116::112::58::47::47::119::119::119::46::111::112::101::110::97::114::99::104::105::118::101::0::0::0::0::0::0::0::0::0::0::0::0::0::0::[])) (.int 0)) => ?_)
  refine hG.st (fun t q => XS.dup S129.here hx rfl (hb hby own_d6_294) rfl rfl (XS.bipush S129.here hx rfl (hb hby own_d6_295) (XS.bipush S129.here hx rfl (hb hby own_d6_297) q))) ?_
  show G T129 (mkF m 299 #[iv 1] [(.int 115), (.int 22), (.ref x107), (.ref x107)])
  refine Own.Sit.stC hG S129 hx V129 ga_x107 ⟨by decide, by decide⟩ 22 rfl (Nat.le_of_ble_eq_true rfl) rfl rfl (hb hby own_d6_299) (fun T130 h130 S130 J130 (V130 : Arv Z h130 x107 k107 .char (36 : Int32) (List.map Value.int (104::116::116::112::58::47::47::119::119::119::46::111::112::101::110::97::114::99::104::105::118::101::115::0::0::0::0::0::0::0::0::0::0::0::0::0::[])) (.int 0)) => ?_)
  refine hG.st (fun t q => XS.dup S130.here hx rfl (hb hby own_d6_300) rfl rfl (XS.bipush S130.here hx rfl (hb hby own_d6_301) (XS.bipush S130.here hx rfl (hb hby own_d6_303) q))) ?_
  show G T130 (mkF m 305 #[iv 1] [(.int 46), (.int 23), (.ref x107), (.ref x107)])
  refine Own.Sit.stC hG S130 hx V130 ga_x107 ⟨by decide, by decide⟩ 23 rfl (Nat.le_of_ble_eq_true rfl) rfl rfl (hb hby own_d6_305) (fun T131 h131 S131 J131 (V131 : Arv Z h131 x107 k107 .char (36 : Int32) (List.map Value.int (104::116::116::112::58::47::47::119::119::119::46::111::112::101::110::97::114::99::104::105::118::101::115::46::0::0::0::0::0::0::0::0::0::0::0::0::[])) (.int 0)) => ?_)
  refine hG.st (fun t q => XS.dup S131.here hx rfl (hb hby own_d6_306) rfl rfl (XS.bipush S131.here hx rfl (hb hby own_d6_307) (XS.bipush S131.here hx rfl (hb hby own_d6_309) q))) ?_
  show G T131 (mkF m 311 #[iv 1] [(.int 111), (.int 24), (.ref x107), (.ref x107)])
  refine Own.Sit.stC hG S131 hx V131 ga_x107 ⟨by decide, by decide⟩ 24 rfl (Nat.le_of_ble_eq_true rfl) rfl rfl (hb hby own_d6_311) (fun T132 h132 S132 J132 (V132 : Arv Z h132 x107 k107 .char (36 : Int32) (List.map Value.int (104::116::116::112::58::47::47::119::119::119::46::111::112::101::110::97::114::99::104::105::118::101::115::46::111::0::0::0::0::0::0::0::0::0::0::0::[])) (.int 0)) => ?_)
  refine hG.st (fun t q => XS.dup S132.here hx rfl (hb hby own_d6_312) rfl rfl (XS.bipush S132.here hx rfl (hb hby own_d6_313) (XS.bipush S132.here hx rfl (hb hby own_d6_315) q))) ?_
  show G T132 (mkF m 317 #[iv 1] [(.int 114), (.int 25), (.ref x107), (.ref x107)])
  refine Own.Sit.stC hG S132 hx V132 ga_x107 ⟨by decide, by decide⟩ 25 rfl (Nat.le_of_ble_eq_true rfl) rfl rfl (hb hby own_d6_317) (fun T133 h133 S133 J133 (V133 : Arv Z h133 x107 k107 .char (36 : Int32) (List.map Value.int (104::116::116::112::58::47::47::119::119::119::46::111::112::101::110::97::114::99::104::105::118::101::115::46::111::114::0::0::0::0::0::0::0::0::0::0::[])) (.int 0)) => ?_)
  refine hG.st (fun t q => XS.dup S133.here hx rfl (hb hby own_d6_318) rfl rfl (XS.bipush S133.here hx rfl (hb hby own_d6_319) (XS.bipush S133.here hx rfl (hb hby own_d6_321) q))) ?_
  show G T133 (mkF m 323 #[iv 1] [(.int 103), (.int 26), (.ref x107), (.ref x107)])
  refine Own.Sit.stC hG S133 hx V133 ga_x107 ⟨by decide, by decide⟩ 26 rfl (Nat.le_of_ble_eq_true rfl) rfl rfl (hb hby own_d6_323) (fun T134 h134 S134 J134 (V134 : Arv Z h134 x107 k107 .char (36 : Int32) (List.map Value.int (104::116::116::112::58::47::47::119::119::119::46::111::112::101::110::97::114::99::104::105::118::101::115::46::111::114::103::0::0::0::0::0::0::0::0::0::[])) (.int 0)) => ?_)
  refine hG.st (fun t q => XS.dup S134.here hx rfl (hb hby own_d6_324) rfl rfl (XS.bipush S134.here hx rfl (hb hby own_d6_325) (XS.bipush S134.here hx rfl (hb hby own_d6_327) q))) ?_
  show G T134 (mkF m 329 #[iv 1] [(.int 47), (.int 27), (.ref x107), (.ref x107)])
  refine Own.Sit.stC hG S134 hx V134 ga_x107 ⟨by decide, by decide⟩ 27 rfl (Nat.le_of_ble_eq_true rfl) rfl rfl (hb hby own_d6_329) (fun T135 h135 S135 J135 (V135 : Arv Z h135 x107 k107 .char (36 : Int32) (List.map Value.int (104::116::116::112::58::47::47::119::119::119::46::111::112::101::110::97::114::99::104::105::118::101::115::46::111::114::103::47::0::0::0::0::0::0::0::0::[])) (.int 0)) => ?_)
  refine hG.st (fun t q => XS.dup S135.here hx rfl (hb hby own_d6_330) rfl rfl (XS.bipush S135.here hx rfl (hb hby own_d6_331) (XS.bipush S135.here hx rfl (hb hby own_d6_333) q))) ?_
  show G T135 (mkF m 335 #[iv 1] [(.int 79), (.int 28), (.ref x107), (.ref x107)])
  refine Own.Sit.stC hG S135 hx V135 ga_x107 ⟨by decide, by decide⟩ 28 rfl (Nat.le_of_ble_eq_true rfl) rfl rfl (hb hby own_d6_335) (fun T136 h136 S136 J136 (V136 : Arv Z h136 x107 k107 .char (36 : Int32) (List.map Value.int (104::116::116::112::58::47::47::119::119::119::46::111::112::101::110::97::114::99::104::105::118::101::115::46::111::114::103::47::79::0::0::0::0::0::0::0::[])) (.int 0)) => ?_)
  refine hG.st (fun t q => XS.dup S136.here hx rfl (hb hby own_d6_336) rfl rfl (XS.bipush S136.here hx rfl (hb hby own_d6_337) (XS.bipush S136.here hx rfl (hb hby own_d6_339) q))) ?_
  show G T136 (mkF m 341 #[iv 1] [(.int 65), (.int 29), (.ref x107), (.ref x107)])
  refine Own.Sit.stC hG S136 hx V136 ga_x107 ⟨by decide, by decide⟩ 29 rfl (Nat.le_of_ble_eq_true rfl) rfl rfl (hb hby own_d6_341) (fun T137 h137 S137 J137 (V137 : Arv Z h137 x107 k107 .char (36 : Int32) (List.map Value.int (104::116::116::112::58::47::47::119::119::119::46::111::112::101::110::97::114::99::104::105::118::101::115::46::111::114::103::47::79::65::0::0::0::0::0::0::[])) (.int 0)) => ?_)
  refine hG.st (fun t q => XS.dup S137.here hx rfl (hb hby own_d6_342) rfl rfl (XS.bipush S137.here hx rfl (hb hby own_d6_343) (XS.bipush S137.here hx rfl (hb hby own_d6_345) q))) ?_
  show G T137 (mkF m 347 #[iv 1] [(.int 73), (.int 30), (.ref x107), (.ref x107)])
  refine Own.Sit.stC hG S137 hx V137 ga_x107 ⟨by decide, by decide⟩ 30 rfl (Nat.le_of_ble_eq_true rfl) rfl rfl (hb hby own_d6_347) (fun T138 h138 S138 J138 (V138 : Arv Z h138 x107 k107 .char (36 : Int32) (List.map Value.int (104::116::116::112::58::47::47::119::119::119::46::111::112::101::110::97::114::99::104::105::118::101::115::46::111::114::103::47::79::65::73::0::0::0::0::0::[])) (.int 0)) => ?_)
  refine hG.st (fun t q => XS.dup S138.here hx rfl (hb hby own_d6_348) rfl rfl (XS.bipush S138.here hx rfl (hb hby own_d6_349) (XS.bipush S138.here hx rfl (hb hby own_d6_351) q))) ?_
  show G T138 (mkF m 353 #[iv 1] [(.int 47), (.int 31), (.ref x107), (.ref x107)])
  refine Own.Sit.stC hG S138 hx V138 ga_x107 ⟨by decide, by decide⟩ 31 rfl (Nat.le_of_ble_eq_true rfl) rfl rfl (hb hby own_d6_353) (fun T139 h139 S139 J139 (V139 : Arv Z h139 x107 k107 .char (36 : Int32) (List.map Value.int (104::116::116::112::58::47::47::119::119::119::46::111::112::101::110::97::114::99::104::105::118::101::115::46::111::114::103::47::79::65::73::47::0::0::0::0::[])) (.int 0)) => ?_)
  refine hG.st (fun t q => XS.dup S139.here hx rfl (hb hby own_d6_354) rfl rfl (XS.bipush S139.here hx rfl (hb hby own_d6_355) (XS.bipush S139.here hx rfl (hb hby own_d6_357) q))) ?_
  show G T139 (mkF m 359 #[iv 1] [(.int 50), (.int 32), (.ref x107), (.ref x107)])
  refine Own.Sit.stC hG S139 hx V139 ga_x107 ⟨by decide, by decide⟩ 32 rfl (Nat.le_of_ble_eq_true rfl) rfl rfl (hb hby own_d6_359) (fun T140 h140 S140 J140 (V140 : Arv Z h140 x107 k107 .char (36 : Int32) (List.map Value.int (104::116::116::112::58::47::47::119::119::119::46::111::112::101::110::97::114::99::104::105::118::101::115::46::111::114::103::47::79::65::73::47::50::0::0::0::[])) (.int 0)) => ?_)
  refine hG.st (fun t q => XS.dup S140.here hx rfl (hb hby own_d6_360) rfl rfl (XS.bipush S140.here hx rfl (hb hby own_d6_361) (XS.bipush S140.here hx rfl (hb hby own_d6_363) q))) ?_
  show G T140 (mkF m 365 #[iv 1] [(.int 46), (.int 33), (.ref x107), (.ref x107)])
  refine Own.Sit.stC hG S140 hx V140 ga_x107 ⟨by decide, by decide⟩ 33 rfl (Nat.le_of_ble_eq_true rfl) rfl rfl (hb hby own_d6_365) (fun T141 h141 S141 J141 (V141 : Arv Z h141 x107 k107 .char (36 : Int32) (List.map Value.int (104::116::116::112::58::47::47::119::119::119::46::111::112::101::110::97::114::99::104::105::118::101::115::46::111::114::103::47::79::65::73::47::50::46::0::0::[])) (.int 0)) => ?_)
  refine hG.st (fun t q => XS.dup S141.here hx rfl (hb hby own_d6_366) rfl rfl (XS.bipush S141.here hx rfl (hb hby own_d6_367) (XS.bipush S141.here hx rfl (hb hby own_d6_369) q))) ?_
  show G T141 (mkF m 371 #[iv 1] [(.int 48), (.int 34), (.ref x107), (.ref x107)])
  refine Own.Sit.stC hG S141 hx V141 ga_x107 ⟨by decide, by decide⟩ 34 rfl (Nat.le_of_ble_eq_true rfl) rfl rfl (hb hby own_d6_371) (fun T142 h142 S142 J142 (V142 : Arv Z h142 x107 k107 .char (36 : Int32) (List.map Value.int (104::116::116::112::58::47::47::119::119::119::46::111::112::101::110::97::114::99::104::105::118::101::115::46::111::114::103::47::79::65::73::47::50::46::48::0::[])) (.int 0)) => ?_)
  refine hG.st (fun t q => XS.dup S142.here hx rfl (hb hby own_d6_372) rfl rfl (XS.bipush S142.here hx rfl (hb hby own_d6_373) (XS.bipush S142.here hx rfl (hb hby own_d6_375) q))) ?_
  show G T142 (mkF m 377 #[iv 1] [(.int 47), (.int 35), (.ref x107), (.ref x107)])
  refine Own.Sit.stC hG S142 hx V142 ga_x107 ⟨by decide, by decide⟩ 35 rfl (Nat.le_of_ble_eq_true rfl) rfl rfl (hb hby own_d6_377) (fun T143 h143 S143 J143 (V143 : Arv Z h143 x107 k107 .char (36 : Int32) (List.map Value.int (104::116::116::112::58::47::47::119::119::119::46::111::112::101::110::97::114::99::104::105::118::101::115::46::111::114::103::47::79::65::73::47::50::46::48::47::[])) (.int 0)) => ?_)
  have J144 : Own.Stp Z consts_1 vm0 h0 vm0 h108 [] := Own.Stp.trans J107 J108 (all0) (allS (Or.inr (Nat.le_of_eq g_x107.symm)) all0)
  have J145 : Own.Stp Z consts_1 vm0 h0 vm0 h109 [] := Own.Stp.trans J144 J109 (all0) (allS (Or.inr (Nat.le_of_eq g_x107.symm)) all0)
  have J146 : Own.Stp Z consts_1 vm0 h0 vm0 h110 [] := Own.Stp.trans J145 J110 (all0) (allS (Or.inr (Nat.le_of_eq g_x107.symm)) all0)
  have J147 : Own.Stp Z consts_1 vm0 h0 vm0 h111 [] := Own.Stp.trans J146 J111 (all0) (allS (Or.inr (Nat.le_of_eq g_x107.symm)) all0)
  have J148 : Own.Stp Z consts_1 vm0 h0 vm0 h112 [] := Own.Stp.trans J147 J112 (all0) (allS (Or.inr (Nat.le_of_eq g_x107.symm)) all0)
  have J149 : Own.Stp Z consts_1 vm0 h0 vm0 h113 [] := Own.Stp.trans J148 J113 (all0) (allS (Or.inr (Nat.le_of_eq g_x107.symm)) all0)
  have J150 : Own.Stp Z consts_1 vm0 h0 vm0 h114 [] := Own.Stp.trans J149 J114 (all0) (allS (Or.inr (Nat.le_of_eq g_x107.symm)) all0)
  have J151 : Own.Stp Z consts_1 vm0 h0 vm0 h115 [] := Own.Stp.trans J150 J115 (all0) (allS (Or.inr (Nat.le_of_eq g_x107.symm)) all0)
  have J152 : Own.Stp Z consts_1 vm0 h0 vm0 h116 [] := Own.Stp.trans J151 J116 (all0) (allS (Or.inr (Nat.le_of_eq g_x107.symm)) all0)
  have J153 : Own.Stp Z consts_1 vm0 h0 vm0 h117 [] := Own.Stp.trans J152 J117 (all0) (allS (Or.inr (Nat.le_of_eq g_x107.symm)) all0)
  have J154 : Own.Stp Z consts_1 vm0 h0 vm0 h118 [] := Own.Stp.trans J153 J118 (all0) (allS (Or.inr (Nat.le_of_eq g_x107.symm)) all0)
  have J155 : Own.Stp Z consts_1 vm0 h0 vm0 h119 [] := Own.Stp.trans J154 J119 (all0) (allS (Or.inr (Nat.le_of_eq g_x107.symm)) all0)
  have J156 : Own.Stp Z consts_1 vm0 h0 vm0 h120 [] := Own.Stp.trans J155 J120 (all0) (allS (Or.inr (Nat.le_of_eq g_x107.symm)) all0)
  have J157 : Own.Stp Z consts_1 vm0 h0 vm0 h121 [] := Own.Stp.trans J156 J121 (all0) (allS (Or.inr (Nat.le_of_eq g_x107.symm)) all0)
  have J158 : Own.Stp Z consts_1 vm0 h0 vm0 h122 [] := Own.Stp.trans J157 J122 (all0) (allS (Or.inr (Nat.le_of_eq g_x107.symm)) all0)
  have J159 : Own.Stp Z consts_1 vm0 h0 vm0 h123 [] := Own.Stp.trans J158 J123 (all0) (allS (Or.inr (Nat.le_of_eq g_x107.symm)) all0)
  have J160 : Own.Stp Z consts_1 vm0 h0 vm0 h124 [] := Own.Stp.trans J159 J124 (all0) (allS (Or.inr (Nat.le_of_eq g_x107.symm)) all0)
  have J161 : Own.Stp Z consts_1 vm0 h0 vm0 h125 [] := Own.Stp.trans J160 J125 (all0) (allS (Or.inr (Nat.le_of_eq g_x107.symm)) all0)
  have J162 : Own.Stp Z consts_1 vm0 h0 vm0 h126 [] := Own.Stp.trans J161 J126 (all0) (allS (Or.inr (Nat.le_of_eq g_x107.symm)) all0)
  have J163 : Own.Stp Z consts_1 vm0 h0 vm0 h127 [] := Own.Stp.trans J162 J127 (all0) (allS (Or.inr (Nat.le_of_eq g_x107.symm)) all0)
  have J164 : Own.Stp Z consts_1 vm0 h0 vm0 h128 [] := Own.Stp.trans J163 J128 (all0) (allS (Or.inr (Nat.le_of_eq g_x107.symm)) all0)
  have J165 : Own.Stp Z consts_1 vm0 h0 vm0 h129 [] := Own.Stp.trans J164 J129 (all0) (allS (Or.inr (Nat.le_of_eq g_x107.symm)) all0)
  have J166 : Own.Stp Z consts_1 vm0 h0 vm0 h130 [] := Own.Stp.trans J165 J130 (all0) (allS (Or.inr (Nat.le_of_eq g_x107.symm)) all0)
  have J167 : Own.Stp Z consts_1 vm0 h0 vm0 h131 [] := Own.Stp.trans J166 J131 (all0) (allS (Or.inr (Nat.le_of_eq g_x107.symm)) all0)
  have J168 : Own.Stp Z consts_1 vm0 h0 vm0 h132 [] := Own.Stp.trans J167 J132 (all0) (allS (Or.inr (Nat.le_of_eq g_x107.symm)) all0)
  have J169 : Own.Stp Z consts_1 vm0 h0 vm0 h133 [] := Own.Stp.trans J168 J133 (all0) (allS (Or.inr (Nat.le_of_eq g_x107.symm)) all0)
  have J170 : Own.Stp Z consts_1 vm0 h0 vm0 h134 [] := Own.Stp.trans J169 J134 (all0) (allS (Or.inr (Nat.le_of_eq g_x107.symm)) all0)
  have J171 : Own.Stp Z consts_1 vm0 h0 vm0 h135 [] := Own.Stp.trans J170 J135 (all0) (allS (Or.inr (Nat.le_of_eq g_x107.symm)) all0)
  have J172 : Own.Stp Z consts_1 vm0 h0 vm0 h136 [] := Own.Stp.trans J171 J136 (all0) (allS (Or.inr (Nat.le_of_eq g_x107.symm)) all0)
  have J173 : Own.Stp Z consts_1 vm0 h0 vm0 h137 [] := Own.Stp.trans J172 J137 (all0) (allS (Or.inr (Nat.le_of_eq g_x107.symm)) all0)
  have J174 : Own.Stp Z consts_1 vm0 h0 vm0 h138 [] := Own.Stp.trans J173 J138 (all0) (allS (Or.inr (Nat.le_of_eq g_x107.symm)) all0)
  have J175 : Own.Stp Z consts_1 vm0 h0 vm0 h139 [] := Own.Stp.trans J174 J139 (all0) (allS (Or.inr (Nat.le_of_eq g_x107.symm)) all0)
  have J176 : Own.Stp Z consts_1 vm0 h0 vm0 h140 [] := Own.Stp.trans J175 J140 (all0) (allS (Or.inr (Nat.le_of_eq g_x107.symm)) all0)
  have J177 : Own.Stp Z consts_1 vm0 h0 vm0 h141 [] := Own.Stp.trans J176 J141 (all0) (allS (Or.inr (Nat.le_of_eq g_x107.symm)) all0)
  have J178 : Own.Stp Z consts_1 vm0 h0 vm0 h142 [] := Own.Stp.trans J177 J142 (all0) (allS (Or.inr (Nat.le_of_eq g_x107.symm)) all0)
  have J179 : Own.Stp Z consts_1 vm0 h0 vm0 h143 [] := Own.Stp.trans J178 J143 (all0) (allS (Or.inr (Nat.le_of_eq g_x107.symm)) all0)
  show G T143 (mkF m 378 #[iv 1] [(.ref x107)])
  exact Own.Sit.retO hR S143 hx hret rfl (Or.inr (Or.inr (Or.inr (Or.inr ⟨rfl, rfl, rfl⟩)))) (hb hby own_d6_378) (by decide) (by decide) ⟨J179.1, x107, _, rfl, (Nat.le_of_eq g_x107.symm), V143⟩
theorem own_d6_379 : decode method_2_code 379 = .ok (.iload_n 0, 1) := by decide +kernel
theorem own_d6_380 : decode method_2_code 380 = .ok (.iconst 2, 1) := by decide +kernel
theorem own_d6_381 : decode method_2_code 381 = .ok (.if_icmp .ne 170, 3) := by decide +kernel
theorem own_d6_384 : decode method_2_code 384 = .ok (.bipush 28, 2) := by decide +kernel
theorem own_d6_386 : decode method_2_code 386 = .ok (.newarray .char, 2) := by decide +kernel
theorem own_d6_388 : decode method_2_code 388 = .ok (.dup, 1) := by decide +kernel
theorem own_d6_389 : decode method_2_code 389 = .ok (.iconst 0, 1) := by decide +kernel
theorem own_d6_390 : decode method_2_code 390 = .ok (.bipush 104, 2) := by decide +kernel
theorem own_d6_392 : decode method_2_code 392 = .ok (.castore, 1) := by decide +kernel
theorem own_d6_393 : decode method_2_code 393 = .ok (.dup, 1) := by decide +kernel
theorem own_d6_394 : decode method_2_code 394 = .ok (.iconst 1, 1) := by decide +kernel
theorem own_d6_395 : decode method_2_code 395 = .ok (.bipush 116, 2) := by decide +kernel
theorem own_d6_397 : decode method_2_code 397 = .ok (.castore, 1) := by decide +kernel
theorem own_d6_398 : decode method_2_code 398 = .ok (.dup, 1) := by decide +kernel
theorem own_d6_399 : decode method_2_code 399 = .ok (.iconst 2, 1) := by decide +kernel
theorem own_d6_400 : decode method_2_code 400 = .ok (.bipush 116, 2) := by decide +kernel
theorem own_d6_402 : decode method_2_code 402 = .ok (.castore, 1) := by decide +kernel
theorem own_d6_403 : decode method_2_code 403 = .ok (.dup, 1) := by decide +kernel
theorem own_d6_404 : decode method_2_code 404 = .ok (.iconst 3, 1) := by decide +kernel
theorem own_d6_405 : decode method_2_code 405 = .ok (.bipush 112, 2) := by decide +kernel
theorem own_d6_407 : decode method_2_code 407 = .ok (.castore, 1) := by decide +kernel
theorem own_d6_408 : decode method_2_code 408 = .ok (.dup, 1) := by decide +kernel
theorem own_d6_409 : decode method_2_code 409 = .ok (.iconst 4, 1) := by decide +kernel
theorem own_d6_410 : decode method_2_code 410 = .ok (.bipush 58, 2) := by decide +kernel
theorem own_d6_412 : decode method_2_code 412 = .ok (.castore, 1) := by decide +kernel
theorem own_d6_413 : decode method_2_code 413 = .ok (.dup, 1) := by decide +kernel
theorem own_d6_414 : decode method_2_code 414 = .ok (.iconst 5, 1) := by decide +kernel
theorem own_d6_415 : decode method_2_code 415 = .ok (.bipush 47, 2) := by decide +kernel
theorem own_d6_417 : decode method_2_code 417 = .ok (.castore, 1) := by decide +kernel
theorem own_d6_418 : decode method_2_code 418 = .ok (.dup, 1) := by decide +kernel
theorem own_d6_419 : decode method_2_code 419 = .ok (.bipush 6, 2) := by decide +kernel
theorem own_d6_421 : decode method_2_code 421 = .ok (.bipush 47, 2) := by decide +kernel
theorem own_d6_423 : decode method_2_code 423 = .ok (.castore, 1) := by decide +kernel
theorem own_d6_424 : decode method_2_code 424 = .ok (.dup, 1) := by decide +kernel
theorem own_d6_425 : decode method_2_code 425 = .ok (.bipush 7, 2) := by decide +kernel
theorem own_d6_427 : decode method_2_code 427 = .ok (.bipush 119, 2) := by decide +kernel
theorem own_d6_429 : decode method_2_code 429 = .ok (.castore, 1) := by decide +kernel
theorem own_d6_430 : decode method_2_code 430 = .ok (.dup, 1) := by decide +kernel
theorem own_d6_431 : decode method_2_code 431 = .ok (.bipush 8, 2) := by decide +kernel
theorem own_d6_433 : decode method_2_code 433 = .ok (.bipush 119, 2) := by decide +kernel
theorem own_d6_435 : decode method_2_code 435 = .ok (.castore, 1) := by decide +kernel
theorem own_d6_436 : decode method_2_code 436 = .ok (.dup, 1) := by decide +kernel
theorem own_d6_437 : decode method_2_code 437 = .ok (.bipush 9, 2) := by decide +kernel
theorem own_d6_439 : decode method_2_code 439 = .ok (.bipush 119, 2) := by decide +kernel
theorem own_d6_441 : decode method_2_code 441 = .ok (.castore, 1) := by decide +kernel
theorem own_d6_442 : decode method_2_code 442 = .ok (.dup, 1) := by decide +kernel
theorem own_d6_443 : decode method_2_code 443 = .ok (.bipush 10, 2) := by decide +kernel
theorem own_d6_445 : decode method_2_code 445 = .ok (.bipush 46, 2) := by decide +kernel
theorem own_d6_447 : decode method_2_code 447 = .ok (.castore, 1) := by decide +kernel
theorem own_d6_448 : decode method_2_code 448 = .ok (.dup, 1) := by decide +kernel
theorem own_d6_449 : decode method_2_code 449 = .ok (.bipush 11, 2) := by decide +kernel
theorem own_d6_451 : decode method_2_code 451 = .ok (.bipush 119, 2) := by decide +kernel
theorem own_d6_453 : decode method_2_code 453 = .ok (.castore, 1) := by decide +kernel
theorem own_d6_454 : decode method_2_code 454 = .ok (.dup, 1) := by decide +kernel
theorem own_d6_455 : decode method_2_code 455 = .ok (.bipush 12, 2) := by decide +kernel
theorem own_d6_457 : decode method_2_code 457 = .ok (.bipush 51, 2) := by decide +kernel
theorem own_d6_459 : decode method_2_code 459 = .ok (.castore, 1) := by decide +kernel
theorem own_d6_460 : decode method_2_code 460 = .ok (.dup, 1) := by decide +kernel
theorem own_d6_461 : decode method_2_code 461 = .ok (.bipush 13, 2) := by decide +kernel
theorem own_d6_463 : decode method_2_code 463 = .ok (.bipush 46, 2) := by decide +kernel
theorem own_d6_465 : decode method_2_code 465 = .ok (.castore, 1) := by decide +kernel
theorem own_d6_466 : decode method_2_code 466 = .ok (.dup, 1) := by decide +kernel
theorem own_d6_467 : decode method_2_code 467 = .ok (.bipush 14, 2) := by decide +kernel
theorem own_d6_469 : decode method_2_code 469 = .ok (.bipush 111, 2) := by decide +kernel
theorem own_d6_471 : decode method_2_code 471 = .ok (.castore, 1) := by decide +kernel
theorem own_d6_472 : decode method_2_code 472 = .ok (.dup, 1) := by decide +kernel
theorem own_d6_473 : decode method_2_code 473 = .ok (.bipush 15, 2) := by decide +kernel
theorem own_d6_475 : decode method_2_code 475 = .ok (.bipush 114, 2) := by decide +kernel
theorem own_d6_477 : decode method_2_code 477 = .ok (.castore, 1) := by decide +kernel
theorem own_d6_478 : decode method_2_code 478 = .ok (.dup, 1) := by decide +kernel
theorem own_d6_479 : decode method_2_code 479 = .ok (.bipush 16, 2) := by decide +kernel
theorem own_d6_481 : decode method_2_code 481 = .ok (.bipush 103, 2) := by decide +kernel
theorem own_d6_483 : decode method_2_code 483 = .ok (.castore, 1) := by decide +kernel
theorem own_d6_484 : decode method_2_code 484 = .ok (.dup, 1) := by decide +kernel
theorem own_d6_485 : decode method_2_code 485 = .ok (.bipush 17, 2) := by decide +kernel
theorem own_d6_487 : decode method_2_code 487 = .ok (.bipush 47, 2) := by decide +kernel
theorem own_d6_489 : decode method_2_code 489 = .ok (.castore, 1) := by decide +kernel
theorem own_d6_490 : decode method_2_code 490 = .ok (.dup, 1) := by decide +kernel
theorem own_d6_491 : decode method_2_code 491 = .ok (.bipush 18, 2) := by decide +kernel
theorem own_d6_493 : decode method_2_code 493 = .ok (.bipush 49, 2) := by decide +kernel
theorem own_d6_495 : decode method_2_code 495 = .ok (.castore, 1) := by decide +kernel
theorem own_d6_496 : decode method_2_code 496 = .ok (.dup, 1) := by decide +kernel
theorem own_d6_497 : decode method_2_code 497 = .ok (.bipush 19, 2) := by decide +kernel
theorem own_d6_499 : decode method_2_code 499 = .ok (.bipush 57, 2) := by decide +kernel
theorem own_d6_501 : decode method_2_code 501 = .ok (.castore, 1) := by decide +kernel
theorem own_d6_502 : decode method_2_code 502 = .ok (.dup, 1) := by decide +kernel
theorem own_d6_503 : decode method_2_code 503 = .ok (.bipush 20, 2) := by decide +kernel
theorem own_d6_505 : decode method_2_code 505 = .ok (.bipush 57, 2) := by decide +kernel
theorem own_d6_507 : decode method_2_code 507 = .ok (.castore, 1) := by decide +kernel
theorem own_d6_508 : decode method_2_code 508 = .ok (.dup, 1) := by decide +kernel
theorem own_d6_509 : decode method_2_code 509 = .ok (.bipush 21, 2) := by decide +kernel
theorem own_d6_511 : decode method_2_code 511 = .ok (.bipush 57, 2) := by decide +kernel
theorem own_d6_513 : decode method_2_code 513 = .ok (.castore, 1) := by decide +kernel
theorem own_d6_514 : decode method_2_code 514 = .ok (.dup, 1) := by decide +kernel
theorem own_d6_515 : decode method_2_code 515 = .ok (.bipush 22, 2) := by decide +kernel
theorem own_d6_517 : decode method_2_code 517 = .ok (.bipush 47, 2) := by decide +kernel
theorem own_d6_519 : decode method_2_code 519 = .ok (.castore, 1) := by decide +kernel
theorem own_d6_520 : decode method_2_code 520 = .ok (.dup, 1) := by decide +kernel
theorem own_d6_521 : decode method_2_code 521 = .ok (.bipush 23, 2) := by decide +kernel
theorem own_d6_523 : decode method_2_code 523 = .ok (.bipush 120, 2) := by decide +kernel
theorem own_d6_525 : decode method_2_code 525 = .ok (.castore, 1) := by decide +kernel
theorem own_d6_526 : decode method_2_code 526 = .ok (.dup, 1) := by decide +kernel
theorem own_d6_527 : decode method_2_code 527 = .ok (.bipush 24, 2) := by decide +kernel
theorem own_d6_529 : decode method_2_code 529 = .ok (.bipush 108, 2) := by decide +kernel
theorem own_d6_531 : decode method_2_code 531 = .ok (.castore, 1) := by decide +kernel
theorem own_d6_532 : decode method_2_code 532 = .ok (.dup, 1) := by decide +kernel
theorem own_d6_533 : decode method_2_code 533 = .ok (.bipush 25, 2) := by decide +kernel
theorem own_d6_535 : decode method_2_code 535 = .ok (.bipush 105, 2) := by decide +kernel
theorem own_d6_537 : decode method_2_code 537 = .ok (.castore, 1) := by decide +kernel
theorem own_d6_538 : decode method_2_code 538 = .ok (.dup, 1) := by decide +kernel
theorem own_d6_539 : decode method_2_code 539 = .ok (.bipush 26, 2) := by decide +kernel
theorem own_d6_541 : decode method_2_code 541 = .ok (.bipush 110, 2) := by decide +kernel
theorem own_d6_543 : decode method_2_code 543 = .ok (.castore, 1) := by decide +kernel
theorem own_d6_544 : decode method_2_code 544 = .ok (.dup, 1) := by decide +kernel
theorem own_d6_545 : decode method_2_code 545 = .ok (.bipush 27, 2) := by decide +kernel
theorem own_d6_547 : decode method_2_code 547 = .ok (.bipush 107, 2) := by decide +kernel
theorem own_d6_549 : decode method_2_code 549 = .ok (.castore, 1) := by decide +kernel
theorem own_d6_550 : decode method_2_code 550 = .ok (.areturn, 1) := by decide +kernel
theorem own_ef_own_ns2 (m : MethodId)  : entryFrame m #[(.int 2)] 1 = mkF m 0 #[iv 2] [] := by first | (simp [entryFrame, mkF, argsToLocals, Value.category]; done) | rfl
set_option maxRecDepth 65536 in
set_option maxHeartbeats 40000000 in
theorem own_ns2 (l : Launch) (Z : State) (a0 : Array Value) (H : own_Wld Z a0) {cw : List Jvm.Cond}  (h0 : Heap) (O0 : Ext Z.heap h0) :
    Own.Con l Z consts_1 (⟨"com/example/scholiast/scholiast/ModsReaderNeedsChildElementPinLaw", "nsChars", "(I)[C"⟩ : MethodName) method_2_code 1 (some (.array .char)) cw ({ frames := 0, cells := 1, slots := 28, locals := 0 } : Room) #[(.int 2)] h0 (fun v h => Keep h0 h [] ∧ ∃ x kc, v = some (.ref x) ∧ h0.size ≤ x ∧ Arv Z h x kc .char (28 : Int32) (own_L2.map Value.int) (.int 0)) := by
  have hw := H.1
  have hW := fun (i : Nat) (w : Jvm.Cond) (e : tables_1[i]? = some w) => hw w (List.mem_of_getElem? e)
  have hCm := H.2.1
  have hSi := H.2.2.1
  have hEL := H.2.2.2
  have hWs : ∀ d ∈ StrChars.Road.words, d.before a0 Z = true := fun d hd => hw d (own_wbackV d hd)
  have hWe : ∀ d ∈ StrChars.Road.wordsEq, d.before a0 Z = true := fun d hd => hw d (own_weqW d hd)
  have hSA : ∀ d ∈ Bundle.stringAtoms, d.before a0 Z = true := fun d hd => hw d (own_wSA d hd)
  refine Own.Con.of own_pnb9cc79 hEL O0 ?_
  intro p e s m below meth c T0 G vm0 hx hby hml hret hnm hG hR S0
  have hz : ∀ L : Array Slot, L.size = 1 → L.size = c.maxLocals := fun L q => q.trans hml.symm
  rw [own_ef_own_ns2]
  show G T0 (mkF m 0 #[iv 2] [])
  refine hG.st (fun t q => XS.iloadN S0.here hx rfl (hb hby own_d6_0) rfl (XS.ifYes S0.here hx rfl (pc0 := 1) (pc' := 159) rfl (hb hby own_d6_1) rfl ((if0 _ _).trans (feq (by decide : ¬ ((2 : Int32) = (0 : Int32)))).2) (by decide) (by decide) (XS.iloadN S0.here hx rfl (hb hby own_d6_159) rfl (XS.iconst S0.here hx rfl (hb hby own_d6_160) (XS.icmpYes S0.here hx rfl (pc0 := 161) (pc' := 379) rfl (hb hby own_d6_161) rfl (feq (by decide : ¬ ((2 : Int32) = (1 : Int32)))).2 (by decide) (by decide) (XS.iloadN S0.here hx rfl (hb hby own_d6_379) rfl q)))))) ?_
  show G T0 (mkF m 380 #[iv 2] [(.int 2)])
  refine hG.st (fun t q => XS.iconst S0.here hx rfl (hb hby own_d6_380) (XS.icmpNo S0.here hx rfl (hb hby own_d6_381) rfl (teq (by decide : (2 : Int32) = (2 : Int32))).2 (XS.bipush S0.here hx rfl (hb hby own_d6_384) q))) ?_
  show G T0 (mkF m 386 #[iv 2] [(.int 28)])
  refine Own.Sit.newP hG S0 hx (aty := .char) (hW 4 _ rfl) rfl (hb hby own_d6_386) rfl (by decide) (cap := 28) (by decide) (by decide) (by decide) (by decide) (fun T180 h180 x180 k180 g_x180 S180 J180 Sf180 (V180 : Arv Z h180 x180 k180 .char (28 : Int32) (List.map Value.int (0::0::0::0::0::0::0::0::0::0::0::0::0::0::0::0::0::0::0::0::0::0::0::0::0::0::0::0::[])) (.int 0)) => ?_)
  have lt_x180 := V180.lt
  have ga_x180 : Z.heap.size ≤ x180 := Nat.le_trans S0.le (Nat.le_of_eq g_x180.symm)
  refine hG.st (fun t q => XS.dup S180.here hx rfl (hb hby own_d6_388) rfl rfl (XS.iconst S180.here hx rfl (hb hby own_d6_389) (XS.bipush S180.here hx rfl (hb hby own_d6_390) q))) ?_
  show G T180 (mkF m 392 #[iv 2] [(.int 104), (.int 0), (.ref x180), (.ref x180)])
  refine Own.Sit.stC hG S180 hx V180 ga_x180 ⟨by decide, by decide⟩ 0 rfl (Nat.le_of_ble_eq_true rfl) rfl rfl (hb hby own_d6_392) (fun T181 h181 S181 J181 (V181 : Arv Z h181 x180 k180 .char (28 : Int32) (List.map Value.int (104::0::0::0::0::0::0::0::0::0::0::0::0::0::0::0::0::0::0::0::0::0::0::0::0::0::0::0::[])) (.int 0)) => ?_)
  refine hG.st (fun t q => XS.dup S181.here hx rfl (hb hby own_d6_393) rfl rfl (XS.iconst S181.here hx rfl (hb hby own_d6_394) (XS.bipush S181.here hx rfl (hb hby own_d6_395) q))) ?_
  show G T181 (mkF m 397 #[iv 2] [(.int 116), (.int 1), (.ref x180), (.ref x180)])
  refine Own.Sit.stC hG S181 hx V181 ga_x180 ⟨by decide, by decide⟩ 1 rfl (Nat.le_of_ble_eq_true rfl) rfl rfl (hb hby own_d6_397) (fun T182 h182 S182 J182 (V182 : Arv Z h182 x180 k180 .char (28 : Int32) (List.map Value.int (104::116::0::0::0::0::0::0::0::0::0::0::0::0::0::0::0::0::0::0::0::0::0::0::0::0::0::0::[])) (.int 0)) => ?_)
  refine hG.st (fun t q => XS.dup S182.here hx rfl (hb hby own_d6_398) rfl rfl (XS.iconst S182.here hx rfl (hb hby own_d6_399) (XS.bipush S182.here hx rfl (hb hby own_d6_400) q))) ?_
  show G T182 (mkF m 402 #[iv 2] [(.int 116), (.int 2), (.ref x180), (.ref x180)])
  refine Own.Sit.stC hG S182 hx V182 ga_x180 ⟨by decide, by decide⟩ 2 rfl (Nat.le_of_ble_eq_true rfl) rfl rfl (hb hby own_d6_402) (fun T183 h183 S183 J183 (V183 : Arv Z h183 x180 k180 .char (28 : Int32) (List.map Value.int (104::116::116::0::0::0::0::0::0::0::0::0::0::0::0::0::0::0::0::0::0::0::0::0::0::0::0::0::[])) (.int 0)) => ?_)
  refine hG.st (fun t q => XS.dup S183.here hx rfl (hb hby own_d6_403) rfl rfl (XS.iconst S183.here hx rfl (hb hby own_d6_404) (XS.bipush S183.here hx rfl (hb hby own_d6_405) q))) ?_
  show G T183 (mkF m 407 #[iv 2] [(.int 112), (.int 3), (.ref x180), (.ref x180)])
  refine Own.Sit.stC hG S183 hx V183 ga_x180 ⟨by decide, by decide⟩ 3 rfl (Nat.le_of_ble_eq_true rfl) rfl rfl (hb hby own_d6_407) (fun T184 h184 S184 J184 (V184 : Arv Z h184 x180 k180 .char (28 : Int32) (List.map Value.int (104::116::116::112::0::0::0::0::0::0::0::0::0::0::0::0::0::0::0::0::0::0::0::0::0::0::0::0::[])) (.int 0)) => ?_)
  refine hG.st (fun t q => XS.dup S184.here hx rfl (hb hby own_d6_408) rfl rfl (XS.iconst S184.here hx rfl (hb hby own_d6_409) (XS.bipush S184.here hx rfl (hb hby own_d6_410) q))) ?_
  show G T184 (mkF m 412 #[iv 2] [(.int 58), (.int 4), (.ref x180), (.ref x180)])
  refine Own.Sit.stC hG S184 hx V184 ga_x180 ⟨by decide, by decide⟩ 4 rfl (Nat.le_of_ble_eq_true rfl) rfl rfl (hb hby own_d6_412) (fun T185 h185 S185 J185 (V185 : Arv Z h185 x180 k180 .char (28 : Int32) (List.map Value.int (104::116::116::112::58::0::0::0::0::0::0::0::0::0::0::0::0::0::0::0::0::0::0::0::0::0::0::0::[])) (.int 0)) => ?_)
  refine hG.st (fun t q => XS.dup S185.here hx rfl (hb hby own_d6_413) rfl rfl (XS.iconst S185.here hx rfl (hb hby own_d6_414) (XS.bipush S185.here hx rfl (hb hby own_d6_415) q))) ?_
  show G T185 (mkF m 417 #[iv 2] [(.int 47), (.int 5), (.ref x180), (.ref x180)])
  refine Own.Sit.stC hG S185 hx V185 ga_x180 ⟨by decide, by decide⟩ 5 rfl (Nat.le_of_ble_eq_true rfl) rfl rfl (hb hby own_d6_417) (fun T186 h186 S186 J186 (V186 : Arv Z h186 x180 k180 .char (28 : Int32) (List.map Value.int (104::116::116::112::58::47::0::0::0::0::0::0::0::0::0::0::0::0::0::0::0::0::0::0::0::0::0::0::[])) (.int 0)) => ?_)
  refine hG.st (fun t q => XS.dup S186.here hx rfl (hb hby own_d6_418) rfl rfl (XS.bipush S186.here hx rfl (hb hby own_d6_419) (XS.bipush S186.here hx rfl (hb hby own_d6_421) q))) ?_
  show G T186 (mkF m 423 #[iv 2] [(.int 47), (.int 6), (.ref x180), (.ref x180)])
  refine Own.Sit.stC hG S186 hx V186 ga_x180 ⟨by decide, by decide⟩ 6 rfl (Nat.le_of_ble_eq_true rfl) rfl rfl (hb hby own_d6_423) (fun T187 h187 S187 J187 (V187 : Arv Z h187 x180 k180 .char (28 : Int32) (List.map Value.int (104::116::116::112::58::47::47::0::0::0::0::0::0::0::0::0::0::0::0::0::0::0::0::0::0::0::0::0::[])) (.int 0)) => ?_)
  refine hG.st (fun t q => XS.dup S187.here hx rfl (hb hby own_d6_424) rfl rfl (XS.bipush S187.here hx rfl (hb hby own_d6_425) (XS.bipush S187.here hx rfl (hb hby own_d6_427) q))) ?_
  show G T187 (mkF m 429 #[iv 2] [(.int 119), (.int 7), (.ref x180), (.ref x180)])
  refine Own.Sit.stC hG S187 hx V187 ga_x180 ⟨by decide, by decide⟩ 7 rfl (Nat.le_of_ble_eq_true rfl) rfl rfl (hb hby own_d6_429) (fun T188 h188 S188 J188 (V188 : Arv Z h188 x180 k180 .char (28 : Int32) (List.map Value.int (104::116::116::112::58::47::47::119::0::0::0::0::0::0::0::0::0::0::0::0::0::0::0::0::0::0::0::0::[])) (.int 0)) => ?_)
  refine hG.st (fun t q => XS.dup S188.here hx rfl (hb hby own_d6_430) rfl rfl (XS.bipush S188.here hx rfl (hb hby own_d6_431) (XS.bipush S188.here hx rfl (hb hby own_d6_433) q))) ?_
  show G T188 (mkF m 435 #[iv 2] [(.int 119), (.int 8), (.ref x180), (.ref x180)])
  refine Own.Sit.stC hG S188 hx V188 ga_x180 ⟨by decide, by decide⟩ 8 rfl (Nat.le_of_ble_eq_true rfl) rfl rfl (hb hby own_d6_435) (fun T189 h189 S189 J189 (V189 : Arv Z h189 x180 k180 .char (28 : Int32) (List.map Value.int (104::116::116::112::58::47::47::119::119::0::0::0::0::0::0::0::0::0::0::0::0::0::0::0::0::0::0::0::[])) (.int 0)) => ?_)
  refine hG.st (fun t q => XS.dup S189.here hx rfl (hb hby own_d6_436) rfl rfl (XS.bipush S189.here hx rfl (hb hby own_d6_437) (XS.bipush S189.here hx rfl (hb hby own_d6_439) q))) ?_
  show G T189 (mkF m 441 #[iv 2] [(.int 119), (.int 9), (.ref x180), (.ref x180)])
  refine Own.Sit.stC hG S189 hx V189 ga_x180 ⟨by decide, by decide⟩ 9 rfl (Nat.le_of_ble_eq_true rfl) rfl rfl (hb hby own_d6_441) (fun T190 h190 S190 J190 (V190 : Arv Z h190 x180 k180 .char (28 : Int32) (List.map Value.int (104::116::116::112::58::47::47::119::119::119::0::0::0::0::0::0::0::0::0::0::0::0::0::0::0::0::0::0::[])) (.int 0)) => ?_)
  refine hG.st (fun t q => XS.dup S190.here hx rfl (hb hby own_d6_442) rfl rfl (XS.bipush S190.here hx rfl (hb hby own_d6_443) (XS.bipush S190.here hx rfl (hb hby own_d6_445) q))) ?_
  show G T190 (mkF m 447 #[iv 2] [(.int 46), (.int 10), (.ref x180), (.ref x180)])
  refine Own.Sit.stC hG S190 hx V190 ga_x180 ⟨by decide, by decide⟩ 10 rfl (Nat.le_of_ble_eq_true rfl) rfl rfl (hb hby own_d6_447) (fun T191 h191 S191 J191 (V191 : Arv Z h191 x180 k180 .char (28 : Int32) (List.map Value.int (104::116::116::112::58::47::47::119::119::119::46::0::0::0::0::0::0::0::0::0::0::0::0::0::0::0::0::0::[])) (.int 0)) => ?_)
  refine hG.st (fun t q => XS.dup S191.here hx rfl (hb hby own_d6_448) rfl rfl (XS.bipush S191.here hx rfl (hb hby own_d6_449) (XS.bipush S191.here hx rfl (hb hby own_d6_451) q))) ?_
  show G T191 (mkF m 453 #[iv 2] [(.int 119), (.int 11), (.ref x180), (.ref x180)])
  refine Own.Sit.stC hG S191 hx V191 ga_x180 ⟨by decide, by decide⟩ 11 rfl (Nat.le_of_ble_eq_true rfl) rfl rfl (hb hby own_d6_453) (fun T192 h192 S192 J192 (V192 : Arv Z h192 x180 k180 .char (28 : Int32) (List.map Value.int (104::116::116::112::58::47::47::119::119::119::46::119::0::0::0::0::0::0::0::0::0::0::0::0::0::0::0::0::[])) (.int 0)) => ?_)
  refine hG.st (fun t q => XS.dup S192.here hx rfl (hb hby own_d6_454) rfl rfl (XS.bipush S192.here hx rfl (hb hby own_d6_455) (XS.bipush S192.here hx rfl (hb hby own_d6_457) q))) ?_
  show G T192 (mkF m 459 #[iv 2] [(.int 51), (.int 12), (.ref x180), (.ref x180)])
  refine Own.Sit.stC hG S192 hx V192 ga_x180 ⟨by decide, by decide⟩ 12 rfl (Nat.le_of_ble_eq_true rfl) rfl rfl (hb hby own_d6_459) (fun T193 h193 S193 J193 (V193 : Arv Z h193 x180 k180 .char (28 : Int32) (List.map Value.int (104::116::116::112::58::47::47::119::119::119::46::119::51::0::0::0::0::0::0::0::0::0::0::0::0::0::0::0::[])) (.int 0)) => ?_)
  refine hG.st (fun t q => XS.dup S193.here hx rfl (hb hby own_d6_460) rfl rfl (XS.bipush S193.here hx rfl (hb hby own_d6_461) (XS.bipush S193.here hx rfl (hb hby own_d6_463) q))) ?_
  show G T193 (mkF m 465 #[iv 2] [(.int 46), (.int 13), (.ref x180), (.ref x180)])
  refine Own.Sit.stC hG S193 hx V193 ga_x180 ⟨by decide, by decide⟩ 13 rfl (Nat.le_of_ble_eq_true rfl) rfl rfl (hb hby own_d6_465) (fun T194 h194 S194 J194 (V194 : Arv Z h194 x180 k180 .char (28 : Int32) (List.map Value.int (104::116::116::112::58::47::47::119::119::119::46::119::51::46::0::0::0::0::0::0::0::0::0::0::0::0::0::0::[])) (.int 0)) => ?_)
  refine hG.st (fun t q => XS.dup S194.here hx rfl (hb hby own_d6_466) rfl rfl (XS.bipush S194.here hx rfl (hb hby own_d6_467) (XS.bipush S194.here hx rfl (hb hby own_d6_469) q))) ?_
  show G T194 (mkF m 471 #[iv 2] [(.int 111), (.int 14), (.ref x180), (.ref x180)])
  refine Own.Sit.stC hG S194 hx V194 ga_x180 ⟨by decide, by decide⟩ 14 rfl (Nat.le_of_ble_eq_true rfl) rfl rfl (hb hby own_d6_471) (fun T195 h195 S195 J195 (V195 : Arv Z h195 x180 k180 .char (28 : Int32) (List.map Value.int (104::116::116::112::58::47::47::119::119::119::46::119::51::46::111::0::0::0::0::0::0::0::0::0::0::0::0::0::[])) (.int 0)) => ?_)
  refine hG.st (fun t q => XS.dup S195.here hx rfl (hb hby own_d6_472) rfl rfl (XS.bipush S195.here hx rfl (hb hby own_d6_473) (XS.bipush S195.here hx rfl (hb hby own_d6_475) q))) ?_
  show G T195 (mkF m 477 #[iv 2] [(.int 114), (.int 15), (.ref x180), (.ref x180)])
  refine Own.Sit.stC hG S195 hx V195 ga_x180 ⟨by decide, by decide⟩ 15 rfl (Nat.le_of_ble_eq_true rfl) rfl rfl (hb hby own_d6_477) (fun T196 h196 S196 J196 (V196 : Arv Z h196 x180 k180 .char (28 : Int32) (List.map Value.int (104::116::116::112::58::47::47::119::119::119::46::119::51::46::111::114::0::0::0::0::0::0::0::0::0::0::0::0::[])) (.int 0)) => ?_)
  refine hG.st (fun t q => XS.dup S196.here hx rfl (hb hby own_d6_478) rfl rfl (XS.bipush S196.here hx rfl (hb hby own_d6_479) (XS.bipush S196.here hx rfl (hb hby own_d6_481) q))) ?_
  show G T196 (mkF m 483 #[iv 2] [(.int 103), (.int 16), (.ref x180), (.ref x180)])
  refine Own.Sit.stC hG S196 hx V196 ga_x180 ⟨by decide, by decide⟩ 16 rfl (Nat.le_of_ble_eq_true rfl) rfl rfl (hb hby own_d6_483) (fun T197 h197 S197 J197 (V197 : Arv Z h197 x180 k180 .char (28 : Int32) (List.map Value.int (104::116::116::112::58::47::47::119::119::119::46::119::51::46::111::114::103::0::0::0::0::0::0::0::0::0::0::0::[])) (.int 0)) => ?_)
  refine hG.st (fun t q => XS.dup S197.here hx rfl (hb hby own_d6_484) rfl rfl (XS.bipush S197.here hx rfl (hb hby own_d6_485) (XS.bipush S197.here hx rfl (hb hby own_d6_487) q))) ?_
  show G T197 (mkF m 489 #[iv 2] [(.int 47), (.int 17), (.ref x180), (.ref x180)])
  refine Own.Sit.stC hG S197 hx V197 ga_x180 ⟨by decide, by decide⟩ 17 rfl (Nat.le_of_ble_eq_true rfl) rfl rfl (hb hby own_d6_489) (fun T198 h198 S198 J198 (V198 : Arv Z h198 x180 k180 .char (28 : Int32) (List.map Value.int (104::116::116::112::58::47::47::119::119::119::46::119::51::46::111::114::103::47::0::0::0::0::0::0::0::0::0::0::[])) (.int 0)) => ?_)
  refine hG.st (fun t q => XS.dup S198.here hx rfl (hb hby own_d6_490) rfl rfl (XS.bipush S198.here hx rfl (hb hby own_d6_491) (XS.bipush S198.here hx rfl (hb hby own_d6_493) q))) ?_
  show G T198 (mkF m 495 #[iv 2] [(.int 49), (.int 18), (.ref x180), (.ref x180)])
  refine Own.Sit.stC hG S198 hx V198 ga_x180 ⟨by decide, by decide⟩ 18 rfl (Nat.le_of_ble_eq_true rfl) rfl rfl (hb hby own_d6_495) (fun T199 h199 S199 J199 (V199 : Arv Z h199 x180 k180 .char (28 : Int32) (List.map Value.int (104::116::116::112::58::47::47::119::119::119::46::119::51::46::111::114::103::47::49::0::0::0::0::0::0::0::0::0::[])) (.int 0)) => ?_)
  refine hG.st (fun t q => XS.dup S199.here hx rfl (hb hby own_d6_496) rfl rfl (XS.bipush S199.here hx rfl (hb hby own_d6_497) (XS.bipush S199.here hx rfl (hb hby own_d6_499) q))) ?_
  show G T199 (mkF m 501 #[iv 2] [(.int 57), (.int 19), (.ref x180), (.ref x180)])
  refine Own.Sit.stC hG S199 hx V199 ga_x180 ⟨by decide, by decide⟩ 19 rfl (Nat.le_of_ble_eq_true rfl) rfl rfl (hb hby own_d6_501) (fun T200 h200 S200 J200 (V200 : Arv Z h200 x180 k180 .char (28 : Int32) (List.map Value.int (104::116::116::112::58::47::47::119::119::119::46::119::51::46::111::114::103::47::49::57::0::0::0::0::0::0::0::0::[])) (.int 0)) => ?_)
  refine hG.st (fun t q => XS.dup S200.here hx rfl (hb hby own_d6_502) rfl rfl (XS.bipush S200.here hx rfl (hb hby own_d6_503) (XS.bipush S200.here hx rfl (hb hby own_d6_505) q))) ?_
  show G T200 (mkF m 507 #[iv 2] [(.int 57), (.int 20), (.ref x180), (.ref x180)])
  refine Own.Sit.stC hG S200 hx V200 ga_x180 ⟨by decide, by decide⟩ 20 rfl (Nat.le_of_ble_eq_true rfl) rfl rfl (hb hby own_d6_507) (fun T201 h201 S201 J201 (V201 : Arv Z h201 x180 k180 .char (28 : Int32) (List.map Value.int (104::116::116::112::58::47::47::119::119::119::46::119::51::46::111::114::103::47::49::57::57::0::0::0::0::0::0::0::[])) (.int 0)) => ?_)
  refine hG.st (fun t q => XS.dup S201.here hx rfl (hb hby own_d6_508) rfl rfl (XS.bipush S201.here hx rfl (hb hby own_d6_509) (XS.bipush S201.here hx rfl (hb hby own_d6_511) q))) ?_
  show G T201 (mkF m 513 #[iv 2] [(.int 57), (.int 21), (.ref x180), (.ref x180)])
  refine Own.Sit.stC hG S201 hx V201 ga_x180 ⟨by decide, by decide⟩ 21 rfl (Nat.le_of_ble_eq_true rfl) rfl rfl (hb hby own_d6_513) (fun T202 h202 S202 J202 (V202 : Arv Z h202 x180 k180 .char (28 : Int32) (List.map Value.int (104::116::116::112::58::47::47::119::119::119::46::119::51::46::111::114::103::47::49::57::57::57::0::0::0::0::0::0::[])) (.int 0)) => ?_)
  refine hG.st (fun t q => XS.dup S202.here hx rfl (hb hby own_d6_514) rfl rfl (XS.bipush S202.here hx rfl (hb hby own_d6_515) (XS.bipush S202.here hx rfl (hb hby own_d6_517) q))) ?_
  show G T202 (mkF m 519 #[iv 2] [(.int 47), (.int 22), (.ref x180), (.ref x180)])
  refine Own.Sit.stC hG S202 hx V202 ga_x180 ⟨by decide, by decide⟩ 22 rfl (Nat.le_of_ble_eq_true rfl) rfl rfl (hb hby own_d6_519) (fun T203 h203 S203 J203 (V203 : Arv Z h203 x180 k180 .char (28 : Int32) (List.map Value.int (104::116::116::112::58::47::47::119::119::119::46::119::51::46::111::114::103::47::49::57::57::57::47::0::0::0::0::0::[])) (.int 0)) => ?_)
  refine hG.st (fun t q => XS.dup S203.here hx rfl (hb hby own_d6_520) rfl rfl (XS.bipush S203.here hx rfl (hb hby own_d6_521) (XS.bipush S203.here hx rfl (hb hby own_d6_523) q))) ?_
  show G T203 (mkF m 525 #[iv 2] [(.int 120), (.int 23), (.ref x180), (.ref x180)])
  refine Own.Sit.stC hG S203 hx V203 ga_x180 ⟨by decide, by decide⟩ 23 rfl (Nat.le_of_ble_eq_true rfl) rfl rfl (hb hby own_d6_525) (fun T204 h204 S204 J204 (V204 : Arv Z h204 x180 k180 .char (28 : Int32) (List.map Value.int (104::116::116::112::58::47::47::119::119::119::46::119::51::46::111::114::103::47::49::57::57::57::47::120::0::0::0::0::[])) (.int 0)) => ?_)
  refine hG.st (fun t q => XS.dup S204.here hx rfl (hb hby own_d6_526) rfl rfl (XS.bipush S204.here hx rfl (hb hby own_d6_527) (XS.bipush S204.here hx rfl (hb hby own_d6_529) q))) ?_
  show G T204 (mkF m 531 #[iv 2] [(.int 108), (.int 24), (.ref x180), (.ref x180)])
  refine Own.Sit.stC hG S204 hx V204 ga_x180 ⟨by decide, by decide⟩ 24 rfl (Nat.le_of_ble_eq_true rfl) rfl rfl (hb hby own_d6_531) (fun T205 h205 S205 J205 (V205 : Arv Z h205 x180 k180 .char (28 : Int32) (List.map Value.int (104::116::116::112::58::47::47::119::119::119::46::119::51::46::111::114::103::47::49::57::57::57::47::120::108::0::0::0::[])) (.int 0)) => ?_)
  refine hG.st (fun t q => XS.dup S205.here hx rfl (hb hby own_d6_532) rfl rfl (XS.bipush S205.here hx rfl (hb hby own_d6_533) (XS.bipush S205.here hx rfl (hb hby own_d6_535) q))) ?_
  show G T205 (mkF m 537 #[iv 2] [(.int 105), (.int 25), (.ref x180), (.ref x180)])
  refine Own.Sit.stC hG S205 hx V205 ga_x180 ⟨by decide, by decide⟩ 25 rfl (Nat.le_of_ble_eq_true rfl) rfl rfl (hb hby own_d6_537) (fun T206 h206 S206 J206 (V206 : Arv Z h206 x180 k180 .char (28 : Int32) (List.map Value.int (104::116::116::112::58::47::47::119::119::119::46::119::51::46::111::114::103::47::49::57::57::57::47::120::108::105::0::0::[])) (.int 0)) => ?_)
  refine hG.st (fun t q => XS.dup S206.here hx rfl (hb hby own_d6_538) rfl rfl (XS.bipush S206.here hx rfl (hb hby own_d6_539) (XS.bipush S206.here hx rfl (hb hby own_d6_541) q))) ?_
  show G T206 (mkF m 543 #[iv 2] [(.int 110), (.int 26), (.ref x180), (.ref x180)])
  refine Own.Sit.stC hG S206 hx V206 ga_x180 ⟨by decide, by decide⟩ 26 rfl (Nat.le_of_ble_eq_true rfl) rfl rfl (hb hby own_d6_543) (fun T207 h207 S207 J207 (V207 : Arv Z h207 x180 k180 .char (28 : Int32) (List.map Value.int (104::116::116::112::58::47::47::119::119::119::46::119::51::46::111::114::103::47::49::57::57::57::47::120::108::105::110::0::[])) (.int 0)) => ?_)
  refine hG.st (fun t q => XS.dup S207.here hx rfl (hb hby own_d6_544) rfl rfl (XS.bipush S207.here hx rfl (hb hby own_d6_545) (XS.bipush S207.here hx rfl (hb hby own_d6_547) q))) ?_
  show G T207 (mkF m 549 #[iv 2] [(.int 107), (.int 27), (.ref x180), (.ref x180)])
  refine Own.Sit.stC hG S207 hx V207 ga_x180 ⟨by decide, by decide⟩ 27 rfl (Nat.le_of_ble_eq_true rfl) rfl rfl (hb hby own_d6_549) (fun T208 h208 S208 J208 (V208 : Arv Z h208 x180 k180 .char (28 : Int32) (List.map Value.int (104::116::116::112::58::47::47::119::119::119::46::119::51::46::111::114::103::47::49::57::57::57::47::120::108::105::110::107::[])) (.int 0)) => ?_)
  have J209 : Own.Stp Z consts_1 vm0 h0 vm0 h181 [] := Own.Stp.trans J180 J181 (all0) (allS (Or.inr (Nat.le_of_eq g_x180.symm)) all0)
  have J210 : Own.Stp Z consts_1 vm0 h0 vm0 h182 [] := Own.Stp.trans J209 J182 (all0) (allS (Or.inr (Nat.le_of_eq g_x180.symm)) all0)
  have J211 : Own.Stp Z consts_1 vm0 h0 vm0 h183 [] := Own.Stp.trans J210 J183 (all0) (allS (Or.inr (Nat.le_of_eq g_x180.symm)) all0)
  have J212 : Own.Stp Z consts_1 vm0 h0 vm0 h184 [] := Own.Stp.trans J211 J184 (all0) (allS (Or.inr (Nat.le_of_eq g_x180.symm)) all0)
  have J213 : Own.Stp Z consts_1 vm0 h0 vm0 h185 [] := Own.Stp.trans J212 J185 (all0) (allS (Or.inr (Nat.le_of_eq g_x180.symm)) all0)
  have J214 : Own.Stp Z consts_1 vm0 h0 vm0 h186 [] := Own.Stp.trans J213 J186 (all0) (allS (Or.inr (Nat.le_of_eq g_x180.symm)) all0)
  have J215 : Own.Stp Z consts_1 vm0 h0 vm0 h187 [] := Own.Stp.trans J214 J187 (all0) (allS (Or.inr (Nat.le_of_eq g_x180.symm)) all0)
  have J216 : Own.Stp Z consts_1 vm0 h0 vm0 h188 [] := Own.Stp.trans J215 J188 (all0) (allS (Or.inr (Nat.le_of_eq g_x180.symm)) all0)
  have J217 : Own.Stp Z consts_1 vm0 h0 vm0 h189 [] := Own.Stp.trans J216 J189 (all0) (allS (Or.inr (Nat.le_of_eq g_x180.symm)) all0)
  have J218 : Own.Stp Z consts_1 vm0 h0 vm0 h190 [] := Own.Stp.trans J217 J190 (all0) (allS (Or.inr (Nat.le_of_eq g_x180.symm)) all0)
  have J219 : Own.Stp Z consts_1 vm0 h0 vm0 h191 [] := Own.Stp.trans J218 J191 (all0) (allS (Or.inr (Nat.le_of_eq g_x180.symm)) all0)
  have J220 : Own.Stp Z consts_1 vm0 h0 vm0 h192 [] := Own.Stp.trans J219 J192 (all0) (allS (Or.inr (Nat.le_of_eq g_x180.symm)) all0)
  have J221 : Own.Stp Z consts_1 vm0 h0 vm0 h193 [] := Own.Stp.trans J220 J193 (all0) (allS (Or.inr (Nat.le_of_eq g_x180.symm)) all0)
  have J222 : Own.Stp Z consts_1 vm0 h0 vm0 h194 [] := Own.Stp.trans J221 J194 (all0) (allS (Or.inr (Nat.le_of_eq g_x180.symm)) all0)
  have J223 : Own.Stp Z consts_1 vm0 h0 vm0 h195 [] := Own.Stp.trans J222 J195 (all0) (allS (Or.inr (Nat.le_of_eq g_x180.symm)) all0)
  have J224 : Own.Stp Z consts_1 vm0 h0 vm0 h196 [] := Own.Stp.trans J223 J196 (all0) (allS (Or.inr (Nat.le_of_eq g_x180.symm)) all0)
  have J225 : Own.Stp Z consts_1 vm0 h0 vm0 h197 [] := Own.Stp.trans J224 J197 (all0) (allS (Or.inr (Nat.le_of_eq g_x180.symm)) all0)
  have J226 : Own.Stp Z consts_1 vm0 h0 vm0 h198 [] := Own.Stp.trans J225 J198 (all0) (allS (Or.inr (Nat.le_of_eq g_x180.symm)) all0)
  have J227 : Own.Stp Z consts_1 vm0 h0 vm0 h199 [] := Own.Stp.trans J226 J199 (all0) (allS (Or.inr (Nat.le_of_eq g_x180.symm)) all0)
  have J228 : Own.Stp Z consts_1 vm0 h0 vm0 h200 [] := Own.Stp.trans J227 J200 (all0) (allS (Or.inr (Nat.le_of_eq g_x180.symm)) all0)
  have J229 : Own.Stp Z consts_1 vm0 h0 vm0 h201 [] := Own.Stp.trans J228 J201 (all0) (allS (Or.inr (Nat.le_of_eq g_x180.symm)) all0)
  have J230 : Own.Stp Z consts_1 vm0 h0 vm0 h202 [] := Own.Stp.trans J229 J202 (all0) (allS (Or.inr (Nat.le_of_eq g_x180.symm)) all0)
  have J231 : Own.Stp Z consts_1 vm0 h0 vm0 h203 [] := Own.Stp.trans J230 J203 (all0) (allS (Or.inr (Nat.le_of_eq g_x180.symm)) all0)
  have J232 : Own.Stp Z consts_1 vm0 h0 vm0 h204 [] := Own.Stp.trans J231 J204 (all0) (allS (Or.inr (Nat.le_of_eq g_x180.symm)) all0)
  have J233 : Own.Stp Z consts_1 vm0 h0 vm0 h205 [] := Own.Stp.trans J232 J205 (all0) (allS (Or.inr (Nat.le_of_eq g_x180.symm)) all0)
  have J234 : Own.Stp Z consts_1 vm0 h0 vm0 h206 [] := Own.Stp.trans J233 J206 (all0) (allS (Or.inr (Nat.le_of_eq g_x180.symm)) all0)
  have J235 : Own.Stp Z consts_1 vm0 h0 vm0 h207 [] := Own.Stp.trans J234 J207 (all0) (allS (Or.inr (Nat.le_of_eq g_x180.symm)) all0)
  have J236 : Own.Stp Z consts_1 vm0 h0 vm0 h208 [] := Own.Stp.trans J235 J208 (all0) (allS (Or.inr (Nat.le_of_eq g_x180.symm)) all0)
  show G T208 (mkF m 550 #[iv 2] [(.ref x180)])
  exact Own.Sit.retO hR S208 hx hret rfl (Or.inr (Or.inr (Or.inr (Or.inr ⟨rfl, rfl, rfl⟩)))) (hb hby own_d6_550) (by decide) (by decide) ⟨J236.1, x180, _, rfl, (Nat.le_of_eq g_x180.symm), V208⟩
theorem own_d6_551 : decode method_2_code 551 = .ok (.iload_n 0, 1) := by decide +kernel
theorem own_d6_552 : decode method_2_code 552 = .ok (.iconst 3, 1) := by decide +kernel
theorem own_d6_553 : decode method_2_code 553 = .ok (.if_icmp .ne 7, 3) := by decide +kernel
theorem own_d6_556 : decode method_2_code 556 = .ok (.iconst 0, 1) := by decide +kernel
theorem own_d6_557 : decode method_2_code 557 = .ok (.newarray .char, 2) := by decide +kernel
theorem own_d6_559 : decode method_2_code 559 = .ok (.areturn, 1) := by decide +kernel
theorem own_ef_own_ns3 (m : MethodId)  : entryFrame m #[(.int 3)] 1 = mkF m 0 #[iv 3] [] := by first | (simp [entryFrame, mkF, argsToLocals, Value.category]; done) | rfl
set_option maxRecDepth 65536 in
set_option maxHeartbeats 40000000 in
theorem own_ns3 (l : Launch) (Z : State) (a0 : Array Value) (H : own_Wld Z a0) {cw : List Jvm.Cond}  (h0 : Heap) (O0 : Ext Z.heap h0) :
    Own.Con l Z consts_1 (⟨"com/example/scholiast/scholiast/ModsReaderNeedsChildElementPinLaw", "nsChars", "(I)[C"⟩ : MethodName) method_2_code 1 (some (.array .char)) cw ({ frames := 0, cells := 1, slots := 0, locals := 0 } : Room) #[(.int 3)] h0 (fun v h => Keep h0 h [] ∧ ∃ x kc, v = some (.ref x) ∧ h0.size ≤ x ∧ Arv Z h x kc .char (0 : Int32) (own_L3.map Value.int) (.int 0)) := by
  have hw := H.1
  have hW := fun (i : Nat) (w : Jvm.Cond) (e : tables_1[i]? = some w) => hw w (List.mem_of_getElem? e)
  have hCm := H.2.1
  have hSi := H.2.2.1
  have hEL := H.2.2.2
  have hWs : ∀ d ∈ StrChars.Road.words, d.before a0 Z = true := fun d hd => hw d (own_wbackV d hd)
  have hWe : ∀ d ∈ StrChars.Road.wordsEq, d.before a0 Z = true := fun d hd => hw d (own_weqW d hd)
  have hSA : ∀ d ∈ Bundle.stringAtoms, d.before a0 Z = true := fun d hd => hw d (own_wSA d hd)
  refine Own.Con.of own_pnb9cc79 hEL O0 ?_
  intro p e s m below meth c T0 G vm0 hx hby hml hret hnm hG hR S0
  have hz : ∀ L : Array Slot, L.size = 1 → L.size = c.maxLocals := fun L q => q.trans hml.symm
  rw [own_ef_own_ns3]
  show G T0 (mkF m 0 #[iv 3] [])
  refine hG.st (fun t q => XS.iloadN S0.here hx rfl (hb hby own_d6_0) rfl (XS.ifYes S0.here hx rfl (pc0 := 1) (pc' := 159) rfl (hb hby own_d6_1) rfl ((if0 _ _).trans (feq (by decide : ¬ ((3 : Int32) = (0 : Int32)))).2) (by decide) (by decide) (XS.iloadN S0.here hx rfl (hb hby own_d6_159) rfl (XS.iconst S0.here hx rfl (hb hby own_d6_160) (XS.icmpYes S0.here hx rfl (pc0 := 161) (pc' := 379) rfl (hb hby own_d6_161) rfl (feq (by decide : ¬ ((3 : Int32) = (1 : Int32)))).2 (by decide) (by decide) (XS.iloadN S0.here hx rfl (hb hby own_d6_379) rfl q)))))) ?_
  show G T0 (mkF m 380 #[iv 3] [(.int 3)])
  refine hG.st (fun t q => XS.iconst S0.here hx rfl (hb hby own_d6_380) (XS.icmpYes S0.here hx rfl (pc0 := 381) (pc' := 551) rfl (hb hby own_d6_381) rfl (feq (by decide : ¬ ((3 : Int32) = (2 : Int32)))).2 (by decide) (by decide) (XS.iloadN S0.here hx rfl (hb hby own_d6_551) rfl (XS.iconst S0.here hx rfl (hb hby own_d6_552) (XS.icmpNo S0.here hx rfl (hb hby own_d6_553) rfl (teq (by decide : (3 : Int32) = (3 : Int32))).2 (XS.iconst S0.here hx rfl (hb hby own_d6_556) q)))))) ?_
  show G T0 (mkF m 557 #[iv 3] [(.int 0)])
  refine Own.Sit.newP hG S0 hx (aty := .char) (hW 4 _ rfl) rfl (hb hby own_d6_557) rfl (by decide) (cap := 0) (by decide) (by decide) (by decide) (by decide) (fun T237 h237 x237 k237 g_x237 S237 J237 Sf237 (V237 : Arv Z h237 x237 k237 .char (0 : Int32) [] (.int 0)) => ?_)
  have lt_x237 := V237.lt
  have ga_x237 : Z.heap.size ≤ x237 := Nat.le_trans S0.le (Nat.le_of_eq g_x237.symm)
  show G T237 (mkF m 559 #[iv 3] [(.ref x237)])
  exact Own.Sit.retO hR S237 hx hret rfl (Or.inr (Or.inr (Or.inr (Or.inr ⟨rfl, rfl, rfl⟩)))) (hb hby own_d6_559) (by decide) (by decide) ⟨J237.1, x237, _, rfl, (Nat.le_of_eq g_x237.symm), V237⟩
theorem own_d6_560 : decode method_2_code 560 = .ok (.iload_n 0, 1) := by decide +kernel
theorem own_d6_561 : decode method_2_code 561 = .ok (.iconst 4, 1) := by decide +kernel
theorem own_d6_562 : decode method_2_code 562 = .ok (.if_icmp .ne 164, 3) := by decide +kernel
theorem own_d6_565 : decode method_2_code 565 = .ok (.bipush 27, 2) := by decide +kernel
theorem own_d6_567 : decode method_2_code 567 = .ok (.newarray .char, 2) := by decide +kernel
theorem own_d6_569 : decode method_2_code 569 = .ok (.dup, 1) := by decide +kernel
theorem own_d6_570 : decode method_2_code 570 = .ok (.iconst 0, 1) := by decide +kernel
theorem own_d6_571 : decode method_2_code 571 = .ok (.bipush 104, 2) := by decide +kernel
theorem own_d6_573 : decode method_2_code 573 = .ok (.castore, 1) := by decide +kernel
theorem own_d6_574 : decode method_2_code 574 = .ok (.dup, 1) := by decide +kernel
theorem own_d6_575 : decode method_2_code 575 = .ok (.iconst 1, 1) := by decide +kernel
theorem own_d6_576 : decode method_2_code 576 = .ok (.bipush 116, 2) := by decide +kernel
theorem own_d6_578 : decode method_2_code 578 = .ok (.castore, 1) := by decide +kernel
theorem own_d6_579 : decode method_2_code 579 = .ok (.dup, 1) := by decide +kernel
theorem own_d6_580 : decode method_2_code 580 = .ok (.iconst 2, 1) := by decide +kernel
theorem own_d6_581 : decode method_2_code 581 = .ok (.bipush 116, 2) := by decide +kernel
theorem own_d6_583 : decode method_2_code 583 = .ok (.castore, 1) := by decide +kernel
theorem own_d6_584 : decode method_2_code 584 = .ok (.dup, 1) := by decide +kernel
theorem own_d6_585 : decode method_2_code 585 = .ok (.iconst 3, 1) := by decide +kernel
theorem own_d6_586 : decode method_2_code 586 = .ok (.bipush 112, 2) := by decide +kernel
theorem own_d6_588 : decode method_2_code 588 = .ok (.castore, 1) := by decide +kernel
theorem own_d6_589 : decode method_2_code 589 = .ok (.dup, 1) := by decide +kernel
theorem own_d6_590 : decode method_2_code 590 = .ok (.iconst 4, 1) := by decide +kernel
theorem own_d6_591 : decode method_2_code 591 = .ok (.bipush 58, 2) := by decide +kernel
theorem own_d6_593 : decode method_2_code 593 = .ok (.castore, 1) := by decide +kernel
theorem own_d6_594 : decode method_2_code 594 = .ok (.dup, 1) := by decide +kernel
theorem own_d6_595 : decode method_2_code 595 = .ok (.iconst 5, 1) := by decide +kernel
theorem own_d6_596 : decode method_2_code 596 = .ok (.bipush 47, 2) := by decide +kernel
theorem own_d6_598 : decode method_2_code 598 = .ok (.castore, 1) := by decide +kernel
theorem own_d6_599 : decode method_2_code 599 = .ok (.dup, 1) := by decide +kernel
theorem own_d6_600 : decode method_2_code 600 = .ok (.bipush 6, 2) := by decide +kernel
theorem own_d6_602 : decode method_2_code 602 = .ok (.bipush 47, 2) := by decide +kernel
theorem own_d6_604 : decode method_2_code 604 = .ok (.castore, 1) := by decide +kernel
theorem own_d6_605 : decode method_2_code 605 = .ok (.dup, 1) := by decide +kernel
theorem own_d6_606 : decode method_2_code 606 = .ok (.bipush 7, 2) := by decide +kernel
theorem own_d6_608 : decode method_2_code 608 = .ok (.bipush 119, 2) := by decide +kernel
theorem own_d6_610 : decode method_2_code 610 = .ok (.castore, 1) := by decide +kernel
theorem own_d6_611 : decode method_2_code 611 = .ok (.dup, 1) := by decide +kernel
theorem own_d6_612 : decode method_2_code 612 = .ok (.bipush 8, 2) := by decide +kernel
theorem own_d6_614 : decode method_2_code 614 = .ok (.bipush 119, 2) := by decide +kernel
theorem own_d6_616 : decode method_2_code 616 = .ok (.castore, 1) := by decide +kernel
theorem own_d6_617 : decode method_2_code 617 = .ok (.dup, 1) := by decide +kernel
theorem own_d6_618 : decode method_2_code 618 = .ok (.bipush 9, 2) := by decide +kernel
theorem own_d6_620 : decode method_2_code 620 = .ok (.bipush 119, 2) := by decide +kernel
theorem own_d6_622 : decode method_2_code 622 = .ok (.castore, 1) := by decide +kernel
theorem own_d6_623 : decode method_2_code 623 = .ok (.dup, 1) := by decide +kernel
theorem own_d6_624 : decode method_2_code 624 = .ok (.bipush 10, 2) := by decide +kernel
theorem own_d6_626 : decode method_2_code 626 = .ok (.bipush 46, 2) := by decide +kernel
theorem own_d6_628 : decode method_2_code 628 = .ok (.castore, 1) := by decide +kernel
theorem own_d6_629 : decode method_2_code 629 = .ok (.dup, 1) := by decide +kernel
theorem own_d6_630 : decode method_2_code 630 = .ok (.bipush 11, 2) := by decide +kernel
theorem own_d6_632 : decode method_2_code 632 = .ok (.bipush 108, 2) := by decide +kernel
theorem own_d6_634 : decode method_2_code 634 = .ok (.castore, 1) := by decide +kernel
theorem own_d6_635 : decode method_2_code 635 = .ok (.dup, 1) := by decide +kernel
theorem own_d6_636 : decode method_2_code 636 = .ok (.bipush 12, 2) := by decide +kernel
theorem own_d6_638 : decode method_2_code 638 = .ok (.bipush 111, 2) := by decide +kernel
theorem own_d6_640 : decode method_2_code 640 = .ok (.castore, 1) := by decide +kernel
theorem own_d6_641 : decode method_2_code 641 = .ok (.dup, 1) := by decide +kernel
theorem own_d6_642 : decode method_2_code 642 = .ok (.bipush 13, 2) := by decide +kernel
theorem own_d6_644 : decode method_2_code 644 = .ok (.bipush 99, 2) := by decide +kernel
theorem own_d6_646 : decode method_2_code 646 = .ok (.castore, 1) := by decide +kernel
theorem own_d6_647 : decode method_2_code 647 = .ok (.dup, 1) := by decide +kernel
theorem own_d6_648 : decode method_2_code 648 = .ok (.bipush 14, 2) := by decide +kernel
theorem own_d6_650 : decode method_2_code 650 = .ok (.bipush 46, 2) := by decide +kernel
theorem own_d6_652 : decode method_2_code 652 = .ok (.castore, 1) := by decide +kernel
theorem own_d6_653 : decode method_2_code 653 = .ok (.dup, 1) := by decide +kernel
theorem own_d6_654 : decode method_2_code 654 = .ok (.bipush 15, 2) := by decide +kernel
theorem own_d6_656 : decode method_2_code 656 = .ok (.bipush 103, 2) := by decide +kernel
theorem own_d6_658 : decode method_2_code 658 = .ok (.castore, 1) := by decide +kernel
theorem own_d6_659 : decode method_2_code 659 = .ok (.dup, 1) := by decide +kernel
theorem own_d6_660 : decode method_2_code 660 = .ok (.bipush 16, 2) := by decide +kernel
theorem own_d6_662 : decode method_2_code 662 = .ok (.bipush 111, 2) := by decide +kernel
theorem own_d6_664 : decode method_2_code 664 = .ok (.castore, 1) := by decide +kernel
theorem own_d6_665 : decode method_2_code 665 = .ok (.dup, 1) := by decide +kernel
theorem own_d6_666 : decode method_2_code 666 = .ok (.bipush 17, 2) := by decide +kernel
theorem own_d6_668 : decode method_2_code 668 = .ok (.bipush 118, 2) := by decide +kernel
theorem own_d6_670 : decode method_2_code 670 = .ok (.castore, 1) := by decide +kernel
theorem own_d6_671 : decode method_2_code 671 = .ok (.dup, 1) := by decide +kernel
theorem own_d6_672 : decode method_2_code 672 = .ok (.bipush 18, 2) := by decide +kernel
theorem own_d6_674 : decode method_2_code 674 = .ok (.bipush 47, 2) := by decide +kernel
theorem own_d6_676 : decode method_2_code 676 = .ok (.castore, 1) := by decide +kernel
theorem own_d6_677 : decode method_2_code 677 = .ok (.dup, 1) := by decide +kernel
theorem own_d6_678 : decode method_2_code 678 = .ok (.bipush 19, 2) := by decide +kernel
theorem own_d6_680 : decode method_2_code 680 = .ok (.bipush 109, 2) := by decide +kernel
theorem own_d6_682 : decode method_2_code 682 = .ok (.castore, 1) := by decide +kernel
theorem own_d6_683 : decode method_2_code 683 = .ok (.dup, 1) := by decide +kernel
theorem own_d6_684 : decode method_2_code 684 = .ok (.bipush 20, 2) := by decide +kernel
theorem own_d6_686 : decode method_2_code 686 = .ok (.bipush 111, 2) := by decide +kernel
theorem own_d6_688 : decode method_2_code 688 = .ok (.castore, 1) := by decide +kernel
theorem own_d6_689 : decode method_2_code 689 = .ok (.dup, 1) := by decide +kernel
theorem own_d6_690 : decode method_2_code 690 = .ok (.bipush 21, 2) := by decide +kernel
theorem own_d6_692 : decode method_2_code 692 = .ok (.bipush 100, 2) := by decide +kernel
theorem own_d6_694 : decode method_2_code 694 = .ok (.castore, 1) := by decide +kernel
theorem own_d6_695 : decode method_2_code 695 = .ok (.dup, 1) := by decide +kernel
theorem own_d6_696 : decode method_2_code 696 = .ok (.bipush 22, 2) := by decide +kernel
theorem own_d6_698 : decode method_2_code 698 = .ok (.bipush 115, 2) := by decide +kernel
theorem own_d6_700 : decode method_2_code 700 = .ok (.castore, 1) := by decide +kernel
theorem own_d6_701 : decode method_2_code 701 = .ok (.dup, 1) := by decide +kernel
theorem own_d6_702 : decode method_2_code 702 = .ok (.bipush 23, 2) := by decide +kernel
theorem own_d6_704 : decode method_2_code 704 = .ok (.bipush 47, 2) := by decide +kernel
theorem own_d6_706 : decode method_2_code 706 = .ok (.castore, 1) := by decide +kernel
theorem own_d6_707 : decode method_2_code 707 = .ok (.dup, 1) := by decide +kernel
theorem own_d6_708 : decode method_2_code 708 = .ok (.bipush 24, 2) := by decide +kernel
theorem own_d6_710 : decode method_2_code 710 = .ok (.bipush 118, 2) := by decide +kernel
theorem own_d6_712 : decode method_2_code 712 = .ok (.castore, 1) := by decide +kernel
theorem own_d6_713 : decode method_2_code 713 = .ok (.dup, 1) := by decide +kernel
theorem own_d6_714 : decode method_2_code 714 = .ok (.bipush 25, 2) := by decide +kernel
theorem own_d6_716 : decode method_2_code 716 = .ok (.bipush 51, 2) := by decide +kernel
theorem own_d6_718 : decode method_2_code 718 = .ok (.castore, 1) := by decide +kernel
theorem own_d6_719 : decode method_2_code 719 = .ok (.dup, 1) := by decide +kernel
theorem own_d6_720 : decode method_2_code 720 = .ok (.bipush 26, 2) := by decide +kernel
theorem own_d6_722 : decode method_2_code 722 = .ok (.bipush 47, 2) := by decide +kernel
theorem own_d6_724 : decode method_2_code 724 = .ok (.castore, 1) := by decide +kernel
theorem own_d6_725 : decode method_2_code 725 = .ok (.areturn, 1) := by decide +kernel
theorem own_ef_own_ns4 (m : MethodId)  : entryFrame m #[(.int 4)] 1 = mkF m 0 #[iv 4] [] := by first | (simp [entryFrame, mkF, argsToLocals, Value.category]; done) | rfl
set_option maxRecDepth 65536 in
set_option maxHeartbeats 40000000 in
theorem own_ns4 (l : Launch) (Z : State) (a0 : Array Value) (H : own_Wld Z a0) {cw : List Jvm.Cond}  (h0 : Heap) (O0 : Ext Z.heap h0) :
    Own.Con l Z consts_1 (⟨"com/example/scholiast/scholiast/ModsReaderNeedsChildElementPinLaw", "nsChars", "(I)[C"⟩ : MethodName) method_2_code 1 (some (.array .char)) cw ({ frames := 0, cells := 1, slots := 27, locals := 0 } : Room) #[(.int 4)] h0 (fun v h => Keep h0 h [] ∧ ∃ x kc, v = some (.ref x) ∧ h0.size ≤ x ∧ Arv Z h x kc .char (27 : Int32) (own_L4.map Value.int) (.int 0)) := by
  have hw := H.1
  have hW := fun (i : Nat) (w : Jvm.Cond) (e : tables_1[i]? = some w) => hw w (List.mem_of_getElem? e)
  have hCm := H.2.1
  have hSi := H.2.2.1
  have hEL := H.2.2.2
  have hWs : ∀ d ∈ StrChars.Road.words, d.before a0 Z = true := fun d hd => hw d (own_wbackV d hd)
  have hWe : ∀ d ∈ StrChars.Road.wordsEq, d.before a0 Z = true := fun d hd => hw d (own_weqW d hd)
  have hSA : ∀ d ∈ Bundle.stringAtoms, d.before a0 Z = true := fun d hd => hw d (own_wSA d hd)
  refine Own.Con.of own_pnb9cc79 hEL O0 ?_
  intro p e s m below meth c T0 G vm0 hx hby hml hret hnm hG hR S0
  have hz : ∀ L : Array Slot, L.size = 1 → L.size = c.maxLocals := fun L q => q.trans hml.symm
  rw [own_ef_own_ns4]
  show G T0 (mkF m 0 #[iv 4] [])
  refine hG.st (fun t q => XS.iloadN S0.here hx rfl (hb hby own_d6_0) rfl (XS.ifYes S0.here hx rfl (pc0 := 1) (pc' := 159) rfl (hb hby own_d6_1) rfl ((if0 _ _).trans (feq (by decide : ¬ ((4 : Int32) = (0 : Int32)))).2) (by decide) (by decide) (XS.iloadN S0.here hx rfl (hb hby own_d6_159) rfl (XS.iconst S0.here hx rfl (hb hby own_d6_160) (XS.icmpYes S0.here hx rfl (pc0 := 161) (pc' := 379) rfl (hb hby own_d6_161) rfl (feq (by decide : ¬ ((4 : Int32) = (1 : Int32)))).2 (by decide) (by decide) (XS.iloadN S0.here hx rfl (hb hby own_d6_379) rfl q)))))) ?_
  show G T0 (mkF m 380 #[iv 4] [(.int 4)])
  refine hG.st (fun t q => XS.iconst S0.here hx rfl (hb hby own_d6_380) (XS.icmpYes S0.here hx rfl (pc0 := 381) (pc' := 551) rfl (hb hby own_d6_381) rfl (feq (by decide : ¬ ((4 : Int32) = (2 : Int32)))).2 (by decide) (by decide) (XS.iloadN S0.here hx rfl (hb hby own_d6_551) rfl (XS.iconst S0.here hx rfl (hb hby own_d6_552) (XS.icmpYes S0.here hx rfl (pc0 := 553) (pc' := 560) rfl (hb hby own_d6_553) rfl (feq (by decide : ¬ ((4 : Int32) = (3 : Int32)))).2 (by decide) (by decide) (XS.iloadN S0.here hx rfl (hb hby own_d6_560) rfl q)))))) ?_
  show G T0 (mkF m 561 #[iv 4] [(.int 4)])
  refine hG.st (fun t q => XS.iconst S0.here hx rfl (hb hby own_d6_561) (XS.icmpNo S0.here hx rfl (hb hby own_d6_562) rfl (teq (by decide : (4 : Int32) = (4 : Int32))).2 (XS.bipush S0.here hx rfl (hb hby own_d6_565) q))) ?_
  show G T0 (mkF m 567 #[iv 4] [(.int 27)])
  refine Own.Sit.newP hG S0 hx (aty := .char) (hW 4 _ rfl) rfl (hb hby own_d6_567) rfl (by decide) (cap := 27) (by decide) (by decide) (by decide) (by decide) (fun T238 h238 x238 k238 g_x238 S238 J238 Sf238 (V238 : Arv Z h238 x238 k238 .char (27 : Int32) (List.map Value.int (0::0::0::0::0::0::0::0::0::0::0::0::0::0::0::0::0::0::0::0::0::0::0::0::0::0::0::[])) (.int 0)) => ?_)
  have lt_x238 := V238.lt
  have ga_x238 : Z.heap.size ≤ x238 := Nat.le_trans S0.le (Nat.le_of_eq g_x238.symm)
  refine hG.st (fun t q => XS.dup S238.here hx rfl (hb hby own_d6_569) rfl rfl (XS.iconst S238.here hx rfl (hb hby own_d6_570) (XS.bipush S238.here hx rfl (hb hby own_d6_571) q))) ?_
  show G T238 (mkF m 573 #[iv 4] [(.int 104), (.int 0), (.ref x238), (.ref x238)])
  refine Own.Sit.stC hG S238 hx V238 ga_x238 ⟨by decide, by decide⟩ 0 rfl (Nat.le_of_ble_eq_true rfl) rfl rfl (hb hby own_d6_573) (fun T239 h239 S239 J239 (V239 : Arv Z h239 x238 k238 .char (27 : Int32) (List.map Value.int (104::0::0::0::0::0::0::0::0::0::0::0::0::0::0::0::0::0::0::0::0::0::0::0::0::0::0::[])) (.int 0)) => ?_)
  refine hG.st (fun t q => XS.dup S239.here hx rfl (hb hby own_d6_574) rfl rfl (XS.iconst S239.here hx rfl (hb hby own_d6_575) (XS.bipush S239.here hx rfl (hb hby own_d6_576) q))) ?_
  show G T239 (mkF m 578 #[iv 4] [(.int 116), (.int 1), (.ref x238), (.ref x238)])
  refine Own.Sit.stC hG S239 hx V239 ga_x238 ⟨by decide, by decide⟩ 1 rfl (Nat.le_of_ble_eq_true rfl) rfl rfl (hb hby own_d6_578) (fun T240 h240 S240 J240 (V240 : Arv Z h240 x238 k238 .char (27 : Int32) (List.map Value.int (104::116::0::0::0::0::0::0::0::0::0::0::0::0::0::0::0::0::0::0::0::0::0::0::0::0::0::[])) (.int 0)) => ?_)
  refine hG.st (fun t q => XS.dup S240.here hx rfl (hb hby own_d6_579) rfl rfl (XS.iconst S240.here hx rfl (hb hby own_d6_580) (XS.bipush S240.here hx rfl (hb hby own_d6_581) q))) ?_
  show G T240 (mkF m 583 #[iv 4] [(.int 116), (.int 2), (.ref x238), (.ref x238)])
  refine Own.Sit.stC hG S240 hx V240 ga_x238 ⟨by decide, by decide⟩ 2 rfl (Nat.le_of_ble_eq_true rfl) rfl rfl (hb hby own_d6_583) (fun T241 h241 S241 J241 (V241 : Arv Z h241 x238 k238 .char (27 : Int32) (List.map Value.int (104::116::116::0::0::0::0::0::0::0::0::0::0::0::0::0::0::0::0::0::0::0::0::0::0::0::0::[])) (.int 0)) => ?_)
  refine hG.st (fun t q => XS.dup S241.here hx rfl (hb hby own_d6_584) rfl rfl (XS.iconst S241.here hx rfl (hb hby own_d6_585) (XS.bipush S241.here hx rfl (hb hby own_d6_586) q))) ?_
  show G T241 (mkF m 588 #[iv 4] [(.int 112), (.int 3), (.ref x238), (.ref x238)])
  refine Own.Sit.stC hG S241 hx V241 ga_x238 ⟨by decide, by decide⟩ 3 rfl (Nat.le_of_ble_eq_true rfl) rfl rfl (hb hby own_d6_588) (fun T242 h242 S242 J242 (V242 : Arv Z h242 x238 k238 .char (27 : Int32) (List.map Value.int (104::116::116::112::0::0::0::0::0::0::0::0::0::0::0::0::0::0::0::0::0::0::0::0::0::0::0::[])) (.int 0)) => ?_)
  refine hG.st (fun t q => XS.dup S242.here hx rfl (hb hby own_d6_589) rfl rfl (XS.iconst S242.here hx rfl (hb hby own_d6_590) (XS.bipush S242.here hx rfl (hb hby own_d6_591) q))) ?_
  show G T242 (mkF m 593 #[iv 4] [(.int 58), (.int 4), (.ref x238), (.ref x238)])
  refine Own.Sit.stC hG S242 hx V242 ga_x238 ⟨by decide, by decide⟩ 4 rfl (Nat.le_of_ble_eq_true rfl) rfl rfl (hb hby own_d6_593) (fun T243 h243 S243 J243 (V243 : Arv Z h243 x238 k238 .char (27 : Int32) (List.map Value.int (104::116::116::112::58::0::0::0::0::0::0::0::0::0::0::0::0::0::0::0::0::0::0::0::0::0::0::[])) (.int 0)) => ?_)
  refine hG.st (fun t q => XS.dup S243.here hx rfl (hb hby own_d6_594) rfl rfl (XS.iconst S243.here hx rfl (hb hby own_d6_595) (XS.bipush S243.here hx rfl (hb hby own_d6_596) q))) ?_
  show G T243 (mkF m 598 #[iv 4] [(.int 47), (.int 5), (.ref x238), (.ref x238)])
  refine Own.Sit.stC hG S243 hx V243 ga_x238 ⟨by decide, by decide⟩ 5 rfl (Nat.le_of_ble_eq_true rfl) rfl rfl (hb hby own_d6_598) (fun T244 h244 S244 J244 (V244 : Arv Z h244 x238 k238 .char (27 : Int32) (List.map Value.int (104::116::116::112::58::47::0::0::0::0::0::0::0::0::0::0::0::0::0::0::0::0::0::0::0::0::0::[])) (.int 0)) => ?_)
  refine hG.st (fun t q => XS.dup S244.here hx rfl (hb hby own_d6_599) rfl rfl (XS.bipush S244.here hx rfl (hb hby own_d6_600) (XS.bipush S244.here hx rfl (hb hby own_d6_602) q))) ?_
  show G T244 (mkF m 604 #[iv 4] [(.int 47), (.int 6), (.ref x238), (.ref x238)])
  refine Own.Sit.stC hG S244 hx V244 ga_x238 ⟨by decide, by decide⟩ 6 rfl (Nat.le_of_ble_eq_true rfl) rfl rfl (hb hby own_d6_604) (fun T245 h245 S245 J245 (V245 : Arv Z h245 x238 k238 .char (27 : Int32) (List.map Value.int (104::116::116::112::58::47::47::0::0::0::0::0::0::0::0::0::0::0::0::0::0::0::0::0::0::0::0::[])) (.int 0)) => ?_)
  refine hG.st (fun t q => XS.dup S245.here hx rfl (hb hby own_d6_605) rfl rfl (XS.bipush S245.here hx rfl (hb hby own_d6_606) (XS.bipush S245.here hx rfl (hb hby own_d6_608) q))) ?_
  show G T245 (mkF m 610 #[iv 4] [(.int 119), (.int 7), (.ref x238), (.ref x238)])
  refine Own.Sit.stC hG S245 hx V245 ga_x238 ⟨by decide, by decide⟩ 7 rfl (Nat.le_of_ble_eq_true rfl) rfl rfl (hb hby own_d6_610) (fun T246 h246 S246 J246 (V246 : Arv Z h246 x238 k238 .char (27 : Int32) (List.map Value.int (104::116::116::112::58::47::47::119::0::0::0::0::0::0::0::0::0::0::0::0::0::0::0::0::0::0::0::[])) (.int 0)) => ?_)
  refine hG.st (fun t q => XS.dup S246.here hx rfl (hb hby own_d6_611) rfl rfl (XS.bipush S246.here hx rfl (hb hby own_d6_612) (XS.bipush S246.here hx rfl (hb hby own_d6_614) q))) ?_
  show G T246 (mkF m 616 #[iv 4] [(.int 119), (.int 8), (.ref x238), (.ref x238)])
  refine Own.Sit.stC hG S246 hx V246 ga_x238 ⟨by decide, by decide⟩ 8 rfl (Nat.le_of_ble_eq_true rfl) rfl rfl (hb hby own_d6_616) (fun T247 h247 S247 J247 (V247 : Arv Z h247 x238 k238 .char (27 : Int32) (List.map Value.int (104::116::116::112::58::47::47::119::119::0::0::0::0::0::0::0::0::0::0::0::0::0::0::0::0::0::0::[])) (.int 0)) => ?_)
  refine hG.st (fun t q => XS.dup S247.here hx rfl (hb hby own_d6_617) rfl rfl (XS.bipush S247.here hx rfl (hb hby own_d6_618) (XS.bipush S247.here hx rfl (hb hby own_d6_620) q))) ?_
  show G T247 (mkF m 622 #[iv 4] [(.int 119), (.int 9), (.ref x238), (.ref x238)])
  refine Own.Sit.stC hG S247 hx V247 ga_x238 ⟨by decide, by decide⟩ 9 rfl (Nat.le_of_ble_eq_true rfl) rfl rfl (hb hby own_d6_622) (fun T248 h248 S248 J248 (V248 : Arv Z h248 x238 k238 .char (27 : Int32) (List.map Value.int (104::116::116::112::58::47::47::119::119::119::0::0::0::0::0::0::0::0::0::0::0::0::0::0::0::0::0::[])) (.int 0)) => ?_)
  refine hG.st (fun t q => XS.dup S248.here hx rfl (hb hby own_d6_623) rfl rfl (XS.bipush S248.here hx rfl (hb hby own_d6_624) (XS.bipush S248.here hx rfl (hb hby own_d6_626) q))) ?_
  show G T248 (mkF m 628 #[iv 4] [(.int 46), (.int 10), (.ref x238), (.ref x238)])
  refine Own.Sit.stC hG S248 hx V248 ga_x238 ⟨by decide, by decide⟩ 10 rfl (Nat.le_of_ble_eq_true rfl) rfl rfl (hb hby own_d6_628) (fun T249 h249 S249 J249 (V249 : Arv Z h249 x238 k238 .char (27 : Int32) (List.map Value.int (104::116::116::112::58::47::47::119::119::119::46::0::0::0::0::0::0::0::0::0::0::0::0::0::0::0::0::[])) (.int 0)) => ?_)
  refine hG.st (fun t q => XS.dup S249.here hx rfl (hb hby own_d6_629) rfl rfl (XS.bipush S249.here hx rfl (hb hby own_d6_630) (XS.bipush S249.here hx rfl (hb hby own_d6_632) q))) ?_
  show G T249 (mkF m 634 #[iv 4] [(.int 108), (.int 11), (.ref x238), (.ref x238)])
  refine Own.Sit.stC hG S249 hx V249 ga_x238 ⟨by decide, by decide⟩ 11 rfl (Nat.le_of_ble_eq_true rfl) rfl rfl (hb hby own_d6_634) (fun T250 h250 S250 J250 (V250 : Arv Z h250 x238 k238 .char (27 : Int32) (List.map Value.int (104::116::116::112::58::47::47::119::119::119::46::108::0::0::0::0::0::0::0::0::0::0::0::0::0::0::0::[])) (.int 0)) => ?_)
  refine hG.st (fun t q => XS.dup S250.here hx rfl (hb hby own_d6_635) rfl rfl (XS.bipush S250.here hx rfl (hb hby own_d6_636) (XS.bipush S250.here hx rfl (hb hby own_d6_638) q))) ?_
  show G T250 (mkF m 640 #[iv 4] [(.int 111), (.int 12), (.ref x238), (.ref x238)])
  refine Own.Sit.stC hG S250 hx V250 ga_x238 ⟨by decide, by decide⟩ 12 rfl (Nat.le_of_ble_eq_true rfl) rfl rfl (hb hby own_d6_640) (fun T251 h251 S251 J251 (V251 : Arv Z h251 x238 k238 .char (27 : Int32) (List.map Value.int (104::116::116::112::58::47::47::119::119::119::46::108::111::0::0::0::0::0::0::0::0::0::0::0::0::0::0::[])) (.int 0)) => ?_)
  refine hG.st (fun t q => XS.dup S251.here hx rfl (hb hby own_d6_641) rfl rfl (XS.bipush S251.here hx rfl (hb hby own_d6_642) (XS.bipush S251.here hx rfl (hb hby own_d6_644) q))) ?_
  show G T251 (mkF m 646 #[iv 4] [(.int 99), (.int 13), (.ref x238), (.ref x238)])
  refine Own.Sit.stC hG S251 hx V251 ga_x238 ⟨by decide, by decide⟩ 13 rfl (Nat.le_of_ble_eq_true rfl) rfl rfl (hb hby own_d6_646) (fun T252 h252 S252 J252 (V252 : Arv Z h252 x238 k238 .char (27 : Int32) (List.map Value.int (104::116::116::112::58::47::47::119::119::119::46::108::111::99::0::0::0::0::0::0::0::0::0::0::0::0::0::[])) (.int 0)) => ?_)
  refine hG.st (fun t q => XS.dup S252.here hx rfl (hb hby own_d6_647) rfl rfl (XS.bipush S252.here hx rfl (hb hby own_d6_648) (XS.bipush S252.here hx rfl (hb hby own_d6_650) q))) ?_
  show G T252 (mkF m 652 #[iv 4] [(.int 46), (.int 14), (.ref x238), (.ref x238)])
  refine Own.Sit.stC hG S252 hx V252 ga_x238 ⟨by decide, by decide⟩ 14 rfl (Nat.le_of_ble_eq_true rfl) rfl rfl (hb hby own_d6_652) (fun T253 h253 S253 J253 (V253 : Arv Z h253 x238 k238 .char (27 : Int32) (List.map Value.int (104::116::116::112::58::47::47::119::119::119::46::108::111::99::46::0::0::0::0::0::0::0::0::0::0::0::0::[])) (.int 0)) => ?_)
  refine hG.st (fun t q => XS.dup S253.here hx rfl (hb hby own_d6_653) rfl rfl (XS.bipush S253.here hx rfl (hb hby own_d6_654) (XS.bipush S253.here hx rfl (hb hby own_d6_656) q))) ?_
  show G T253 (mkF m 658 #[iv 4] [(.int 103), (.int 15), (.ref x238), (.ref x238)])
  refine Own.Sit.stC hG S253 hx V253 ga_x238 ⟨by decide, by decide⟩ 15 rfl (Nat.le_of_ble_eq_true rfl) rfl rfl (hb hby own_d6_658) (fun T254 h254 S254 J254 (V254 : Arv Z h254 x238 k238 .char (27 : Int32) (List.map Value.int (104::116::116::112::58::47::47::119::119::119::46::108::111::99::46::103::0::0::0::0::0::0::0::0::0::0::0::[])) (.int 0)) => ?_)
  refine hG.st (fun t q => XS.dup S254.here hx rfl (hb hby own_d6_659) rfl rfl (XS.bipush S254.here hx rfl (hb hby own_d6_660) (XS.bipush S254.here hx rfl (hb hby own_d6_662) q))) ?_
  show G T254 (mkF m 664 #[iv 4] [(.int 111), (.int 16), (.ref x238), (.ref x238)])
  refine Own.Sit.stC hG S254 hx V254 ga_x238 ⟨by decide, by decide⟩ 16 rfl (Nat.le_of_ble_eq_true rfl) rfl rfl (hb hby own_d6_664) (fun T255 h255 S255 J255 (V255 : Arv Z h255 x238 k238 .char (27 : Int32) (List.map Value.int (104::116::116::112::58::47::47::119::119::119::46::108::111::99::46::103::111::0::0::0::0::0::0::0::0::0::0::[])) (.int 0)) => ?_)
  refine hG.st (fun t q => XS.dup S255.here hx rfl (hb hby own_d6_665) rfl rfl (XS.bipush S255.here hx rfl (hb hby own_d6_666) (XS.bipush S255.here hx rfl (hb hby own_d6_668) q))) ?_
  show G T255 (mkF m 670 #[iv 4] [(.int 118), (.int 17), (.ref x238), (.ref x238)])
  refine Own.Sit.stC hG S255 hx V255 ga_x238 ⟨by decide, by decide⟩ 17 rfl (Nat.le_of_ble_eq_true rfl) rfl rfl (hb hby own_d6_670) (fun T256 h256 S256 J256 (V256 : Arv Z h256 x238 k238 .char (27 : Int32) (List.map Value.int (104::116::116::112::58::47::47::119::119::119::46::108::111::99::46::103::111::118::0::0::0::0::0::0::0::0::0::[])) (.int 0)) => ?_)
  refine hG.st (fun t q => XS.dup S256.here hx rfl (hb hby own_d6_671) rfl rfl (XS.bipush S256.here hx rfl (hb hby own_d6_672) (XS.bipush S256.here hx rfl (hb hby own_d6_674) q))) ?_
  show G T256 (mkF m 676 #[iv 4] [(.int 47), (.int 18), (.ref x238), (.ref x238)])
  refine Own.Sit.stC hG S256 hx V256 ga_x238 ⟨by decide, by decide⟩ 18 rfl (Nat.le_of_ble_eq_true rfl) rfl rfl (hb hby own_d6_676) (fun T257 h257 S257 J257 (V257 : Arv Z h257 x238 k238 .char (27 : Int32) (List.map Value.int (104::116::116::112::58::47::47::119::119::119::46::108::111::99::46::103::111::118::47::0::0::0::0::0::0::0::0::[])) (.int 0)) => ?_)
  refine hG.st (fun t q => XS.dup S257.here hx rfl (hb hby own_d6_677) rfl rfl (XS.bipush S257.here hx rfl (hb hby own_d6_678) (XS.bipush S257.here hx rfl (hb hby own_d6_680) q))) ?_
  show G T257 (mkF m 682 #[iv 4] [(.int 109), (.int 19), (.ref x238), (.ref x238)])
  refine Own.Sit.stC hG S257 hx V257 ga_x238 ⟨by decide, by decide⟩ 19 rfl (Nat.le_of_ble_eq_true rfl) rfl rfl (hb hby own_d6_682) (fun T258 h258 S258 J258 (V258 : Arv Z h258 x238 k238 .char (27 : Int32) (List.map Value.int (104::116::116::112::58::47::47::119::119::119::46::108::111::99::46::103::111::118::47::109::0::0::0::0::0::0::0::[])) (.int 0)) => ?_)
  refine hG.st (fun t q => XS.dup S258.here hx rfl (hb hby own_d6_683) rfl rfl (XS.bipush S258.here hx rfl (hb hby own_d6_684) (XS.bipush S258.here hx rfl (hb hby own_d6_686) q))) ?_
  show G T258 (mkF m 688 #[iv 4] [(.int 111), (.int 20), (.ref x238), (.ref x238)])
  refine Own.Sit.stC hG S258 hx V258 ga_x238 ⟨by decide, by decide⟩ 20 rfl (Nat.le_of_ble_eq_true rfl) rfl rfl (hb hby own_d6_688) (fun T259 h259 S259 J259 (V259 : Arv Z h259 x238 k238 .char (27 : Int32) (List.map Value.int (104::116::116::112::58::47::47::119::119::119::46::108::111::99::46::103::111::118::47::109::111::0::0::0::0::0::0::[])) (.int 0)) => ?_)
  refine hG.st (fun t q => XS.dup S259.here hx rfl (hb hby own_d6_689) rfl rfl (XS.bipush S259.here hx rfl (hb hby own_d6_690) (XS.bipush S259.here hx rfl (hb hby own_d6_692) q))) ?_
  show G T259 (mkF m 694 #[iv 4] [(.int 100), (.int 21), (.ref x238), (.ref x238)])
  refine Own.Sit.stC hG S259 hx V259 ga_x238 ⟨by decide, by decide⟩ 21 rfl (Nat.le_of_ble_eq_true rfl) rfl rfl (hb hby own_d6_694) (fun T260 h260 S260 J260 (V260 : Arv Z h260 x238 k238 .char (27 : Int32) (List.map Value.int (104::116::116::112::58::47::47::119::119::119::46::108::111::99::46::103::111::118::47::109::111::100::0::0::0::0::0::[])) (.int 0)) => ?_)
  refine hG.st (fun t q => XS.dup S260.here hx rfl (hb hby own_d6_695) rfl rfl (XS.bipush S260.here hx rfl (hb hby own_d6_696) (XS.bipush S260.here hx rfl (hb hby own_d6_698) q))) ?_
  show G T260 (mkF m 700 #[iv 4] [(.int 115), (.int 22), (.ref x238), (.ref x238)])
  refine Own.Sit.stC hG S260 hx V260 ga_x238 ⟨by decide, by decide⟩ 22 rfl (Nat.le_of_ble_eq_true rfl) rfl rfl (hb hby own_d6_700) (fun T261 h261 S261 J261 (V261 : Arv Z h261 x238 k238 .char (27 : Int32) (List.map Value.int (104::116::116::112::58::47::47::119::119::119::46::108::111::99::46::103::111::118::47::109::111::100::115::0::0::0::0::[])) (.int 0)) => ?_)
  refine hG.st (fun t q => XS.dup S261.here hx rfl (hb hby own_d6_701) rfl rfl (XS.bipush S261.here hx rfl (hb hby own_d6_702) (XS.bipush S261.here hx rfl (hb hby own_d6_704) q))) ?_
  show G T261 (mkF m 706 #[iv 4] [(.int 47), (.int 23), (.ref x238), (.ref x238)])
  refine Own.Sit.stC hG S261 hx V261 ga_x238 ⟨by decide, by decide⟩ 23 rfl (Nat.le_of_ble_eq_true rfl) rfl rfl (hb hby own_d6_706) (fun T262 h262 S262 J262 (V262 : Arv Z h262 x238 k238 .char (27 : Int32) (List.map Value.int (104::116::116::112::58::47::47::119::119::119::46::108::111::99::46::103::111::118::47::109::111::100::115::47::0::0::0::[])) (.int 0)) => ?_)
  refine hG.st (fun t q => XS.dup S262.here hx rfl (hb hby own_d6_707) rfl rfl (XS.bipush S262.here hx rfl (hb hby own_d6_708) (XS.bipush S262.here hx rfl (hb hby own_d6_710) q))) ?_
  show G T262 (mkF m 712 #[iv 4] [(.int 118), (.int 24), (.ref x238), (.ref x238)])
  refine Own.Sit.stC hG S262 hx V262 ga_x238 ⟨by decide, by decide⟩ 24 rfl (Nat.le_of_ble_eq_true rfl) rfl rfl (hb hby own_d6_712) (fun T263 h263 S263 J263 (V263 : Arv Z h263 x238 k238 .char (27 : Int32) (List.map Value.int (104::116::116::112::58::47::47::119::119::119::46::108::111::99::46::103::111::118::47::109::111::100::115::47::118::0::0::[])) (.int 0)) => ?_)
  refine hG.st (fun t q => XS.dup S263.here hx rfl (hb hby own_d6_713) rfl rfl (XS.bipush S263.here hx rfl (hb hby own_d6_714) (XS.bipush S263.here hx rfl (hb hby own_d6_716) q))) ?_
  show G T263 (mkF m 718 #[iv 4] [(.int 51), (.int 25), (.ref x238), (.ref x238)])
  refine Own.Sit.stC hG S263 hx V263 ga_x238 ⟨by decide, by decide⟩ 25 rfl (Nat.le_of_ble_eq_true rfl) rfl rfl (hb hby own_d6_718) (fun T264 h264 S264 J264 (V264 : Arv Z h264 x238 k238 .char (27 : Int32) (List.map Value.int (104::116::116::112::58::47::47::119::119::119::46::108::111::99::46::103::111::118::47::109::111::100::115::47::118::51::0::[])) (.int 0)) => ?_)
  refine hG.st (fun t q => XS.dup S264.here hx rfl (hb hby own_d6_719) rfl rfl (XS.bipush S264.here hx rfl (hb hby own_d6_720) (XS.bipush S264.here hx rfl (hb hby own_d6_722) q))) ?_
  show G T264 (mkF m 724 #[iv 4] [(.int 47), (.int 26), (.ref x238), (.ref x238)])
  refine Own.Sit.stC hG S264 hx V264 ga_x238 ⟨by decide, by decide⟩ 26 rfl (Nat.le_of_ble_eq_true rfl) rfl rfl (hb hby own_d6_724) (fun T265 h265 S265 J265 (V265 : Arv Z h265 x238 k238 .char (27 : Int32) (List.map Value.int (104::116::116::112::58::47::47::119::119::119::46::108::111::99::46::103::111::118::47::109::111::100::115::47::118::51::47::[])) (.int 0)) => ?_)
  have J266 : Own.Stp Z consts_1 vm0 h0 vm0 h239 [] := Own.Stp.trans J238 J239 (all0) (allS (Or.inr (Nat.le_of_eq g_x238.symm)) all0)
  have J267 : Own.Stp Z consts_1 vm0 h0 vm0 h240 [] := Own.Stp.trans J266 J240 (all0) (allS (Or.inr (Nat.le_of_eq g_x238.symm)) all0)
  have J268 : Own.Stp Z consts_1 vm0 h0 vm0 h241 [] := Own.Stp.trans J267 J241 (all0) (allS (Or.inr (Nat.le_of_eq g_x238.symm)) all0)
  have J269 : Own.Stp Z consts_1 vm0 h0 vm0 h242 [] := Own.Stp.trans J268 J242 (all0) (allS (Or.inr (Nat.le_of_eq g_x238.symm)) all0)
  have J270 : Own.Stp Z consts_1 vm0 h0 vm0 h243 [] := Own.Stp.trans J269 J243 (all0) (allS (Or.inr (Nat.le_of_eq g_x238.symm)) all0)
  have J271 : Own.Stp Z consts_1 vm0 h0 vm0 h244 [] := Own.Stp.trans J270 J244 (all0) (allS (Or.inr (Nat.le_of_eq g_x238.symm)) all0)
  have J272 : Own.Stp Z consts_1 vm0 h0 vm0 h245 [] := Own.Stp.trans J271 J245 (all0) (allS (Or.inr (Nat.le_of_eq g_x238.symm)) all0)
  have J273 : Own.Stp Z consts_1 vm0 h0 vm0 h246 [] := Own.Stp.trans J272 J246 (all0) (allS (Or.inr (Nat.le_of_eq g_x238.symm)) all0)
  have J274 : Own.Stp Z consts_1 vm0 h0 vm0 h247 [] := Own.Stp.trans J273 J247 (all0) (allS (Or.inr (Nat.le_of_eq g_x238.symm)) all0)
  have J275 : Own.Stp Z consts_1 vm0 h0 vm0 h248 [] := Own.Stp.trans J274 J248 (all0) (allS (Or.inr (Nat.le_of_eq g_x238.symm)) all0)
  have J276 : Own.Stp Z consts_1 vm0 h0 vm0 h249 [] := Own.Stp.trans J275 J249 (all0) (allS (Or.inr (Nat.le_of_eq g_x238.symm)) all0)
  have J277 : Own.Stp Z consts_1 vm0 h0 vm0 h250 [] := Own.Stp.trans J276 J250 (all0) (allS (Or.inr (Nat.le_of_eq g_x238.symm)) all0)
  have J278 : Own.Stp Z consts_1 vm0 h0 vm0 h251 [] := Own.Stp.trans J277 J251 (all0) (allS (Or.inr (Nat.le_of_eq g_x238.symm)) all0)
  have J279 : Own.Stp Z consts_1 vm0 h0 vm0 h252 [] := Own.Stp.trans J278 J252 (all0) (allS (Or.inr (Nat.le_of_eq g_x238.symm)) all0)
  have J280 : Own.Stp Z consts_1 vm0 h0 vm0 h253 [] := Own.Stp.trans J279 J253 (all0) (allS (Or.inr (Nat.le_of_eq g_x238.symm)) all0)
  have J281 : Own.Stp Z consts_1 vm0 h0 vm0 h254 [] := Own.Stp.trans J280 J254 (all0) (allS (Or.inr (Nat.le_of_eq g_x238.symm)) all0)
  have J282 : Own.Stp Z consts_1 vm0 h0 vm0 h255 [] := Own.Stp.trans J281 J255 (all0) (allS (Or.inr (Nat.le_of_eq g_x238.symm)) all0)
  have J283 : Own.Stp Z consts_1 vm0 h0 vm0 h256 [] := Own.Stp.trans J282 J256 (all0) (allS (Or.inr (Nat.le_of_eq g_x238.symm)) all0)
  have J284 : Own.Stp Z consts_1 vm0 h0 vm0 h257 [] := Own.Stp.trans J283 J257 (all0) (allS (Or.inr (Nat.le_of_eq g_x238.symm)) all0)
  have J285 : Own.Stp Z consts_1 vm0 h0 vm0 h258 [] := Own.Stp.trans J284 J258 (all0) (allS (Or.inr (Nat.le_of_eq g_x238.symm)) all0)
  have J286 : Own.Stp Z consts_1 vm0 h0 vm0 h259 [] := Own.Stp.trans J285 J259 (all0) (allS (Or.inr (Nat.le_of_eq g_x238.symm)) all0)
  have J287 : Own.Stp Z consts_1 vm0 h0 vm0 h260 [] := Own.Stp.trans J286 J260 (all0) (allS (Or.inr (Nat.le_of_eq g_x238.symm)) all0)
  have J288 : Own.Stp Z consts_1 vm0 h0 vm0 h261 [] := Own.Stp.trans J287 J261 (all0) (allS (Or.inr (Nat.le_of_eq g_x238.symm)) all0)
  have J289 : Own.Stp Z consts_1 vm0 h0 vm0 h262 [] := Own.Stp.trans J288 J262 (all0) (allS (Or.inr (Nat.le_of_eq g_x238.symm)) all0)
  have J290 : Own.Stp Z consts_1 vm0 h0 vm0 h263 [] := Own.Stp.trans J289 J263 (all0) (allS (Or.inr (Nat.le_of_eq g_x238.symm)) all0)
  have J291 : Own.Stp Z consts_1 vm0 h0 vm0 h264 [] := Own.Stp.trans J290 J264 (all0) (allS (Or.inr (Nat.le_of_eq g_x238.symm)) all0)
  have J292 : Own.Stp Z consts_1 vm0 h0 vm0 h265 [] := Own.Stp.trans J291 J265 (all0) (allS (Or.inr (Nat.le_of_eq g_x238.symm)) all0)
  show G T265 (mkF m 725 #[iv 4] [(.ref x238)])
  exact Own.Sit.retO hR S265 hx hret rfl (Or.inr (Or.inr (Or.inr (Or.inr ⟨rfl, rfl, rfl⟩)))) (hb hby own_d6_725) (by decide) (by decide) ⟨J292.1, x238, _, rfl, (Nat.le_of_eq g_x238.symm), V265⟩
theorem own_d6_726 : decode method_2_code 726 = .ok (.bipush 35, 2) := by decide +kernel
theorem own_d6_728 : decode method_2_code 728 = .ok (.newarray .char, 2) := by decide +kernel
theorem own_d6_730 : decode method_2_code 730 = .ok (.dup, 1) := by decide +kernel
theorem own_d6_731 : decode method_2_code 731 = .ok (.iconst 0, 1) := by decide +kernel
theorem own_d6_732 : decode method_2_code 732 = .ok (.bipush 104, 2) := by decide +kernel
theorem own_d6_734 : decode method_2_code 734 = .ok (.castore, 1) := by decide +kernel
theorem own_d6_735 : decode method_2_code 735 = .ok (.dup, 1) := by decide +kernel
theorem own_d6_736 : decode method_2_code 736 = .ok (.iconst 1, 1) := by decide +kernel
theorem own_d6_737 : decode method_2_code 737 = .ok (.bipush 116, 2) := by decide +kernel
theorem own_d6_739 : decode method_2_code 739 = .ok (.castore, 1) := by decide +kernel
theorem own_d6_740 : decode method_2_code 740 = .ok (.dup, 1) := by decide +kernel
theorem own_d6_741 : decode method_2_code 741 = .ok (.iconst 2, 1) := by decide +kernel
theorem own_d6_742 : decode method_2_code 742 = .ok (.bipush 116, 2) := by decide +kernel
theorem own_d6_744 : decode method_2_code 744 = .ok (.castore, 1) := by decide +kernel
theorem own_d6_745 : decode method_2_code 745 = .ok (.dup, 1) := by decide +kernel
theorem own_d6_746 : decode method_2_code 746 = .ok (.iconst 3, 1) := by decide +kernel
theorem own_d6_747 : decode method_2_code 747 = .ok (.bipush 112, 2) := by decide +kernel
theorem own_d6_749 : decode method_2_code 749 = .ok (.castore, 1) := by decide +kernel
theorem own_d6_750 : decode method_2_code 750 = .ok (.dup, 1) := by decide +kernel
theorem own_d6_751 : decode method_2_code 751 = .ok (.iconst 4, 1) := by decide +kernel
theorem own_d6_752 : decode method_2_code 752 = .ok (.bipush 58, 2) := by decide +kernel
theorem own_d6_754 : decode method_2_code 754 = .ok (.castore, 1) := by decide +kernel
theorem own_d6_755 : decode method_2_code 755 = .ok (.dup, 1) := by decide +kernel
theorem own_d6_756 : decode method_2_code 756 = .ok (.iconst 5, 1) := by decide +kernel
theorem own_d6_757 : decode method_2_code 757 = .ok (.bipush 47, 2) := by decide +kernel
theorem own_d6_759 : decode method_2_code 759 = .ok (.castore, 1) := by decide +kernel
theorem own_d6_760 : decode method_2_code 760 = .ok (.dup, 1) := by decide +kernel
theorem own_d6_761 : decode method_2_code 761 = .ok (.bipush 6, 2) := by decide +kernel
theorem own_d6_763 : decode method_2_code 763 = .ok (.bipush 47, 2) := by decide +kernel
theorem own_d6_765 : decode method_2_code 765 = .ok (.castore, 1) := by decide +kernel
theorem own_d6_766 : decode method_2_code 766 = .ok (.dup, 1) := by decide +kernel
theorem own_d6_767 : decode method_2_code 767 = .ok (.bipush 7, 2) := by decide +kernel
theorem own_d6_769 : decode method_2_code 769 = .ok (.bipush 119, 2) := by decide +kernel
theorem own_d6_771 : decode method_2_code 771 = .ok (.castore, 1) := by decide +kernel
theorem own_d6_772 : decode method_2_code 772 = .ok (.dup, 1) := by decide +kernel
theorem own_d6_773 : decode method_2_code 773 = .ok (.bipush 8, 2) := by decide +kernel
theorem own_d6_775 : decode method_2_code 775 = .ok (.bipush 119, 2) := by decide +kernel
theorem own_d6_777 : decode method_2_code 777 = .ok (.castore, 1) := by decide +kernel
theorem own_d6_778 : decode method_2_code 778 = .ok (.dup, 1) := by decide +kernel
theorem own_d6_779 : decode method_2_code 779 = .ok (.bipush 9, 2) := by decide +kernel
theorem own_d6_781 : decode method_2_code 781 = .ok (.bipush 119, 2) := by decide +kernel
theorem own_d6_783 : decode method_2_code 783 = .ok (.castore, 1) := by decide +kernel
theorem own_d6_784 : decode method_2_code 784 = .ok (.dup, 1) := by decide +kernel
theorem own_d6_785 : decode method_2_code 785 = .ok (.bipush 10, 2) := by decide +kernel
theorem own_d6_787 : decode method_2_code 787 = .ok (.bipush 46, 2) := by decide +kernel
theorem own_d6_789 : decode method_2_code 789 = .ok (.castore, 1) := by decide +kernel
theorem own_d6_790 : decode method_2_code 790 = .ok (.dup, 1) := by decide +kernel
theorem own_d6_791 : decode method_2_code 791 = .ok (.bipush 11, 2) := by decide +kernel
theorem own_d6_793 : decode method_2_code 793 = .ok (.bipush 111, 2) := by decide +kernel
theorem own_d6_795 : decode method_2_code 795 = .ok (.castore, 1) := by decide +kernel
theorem own_d6_796 : decode method_2_code 796 = .ok (.dup, 1) := by decide +kernel
theorem own_d6_797 : decode method_2_code 797 = .ok (.bipush 12, 2) := by decide +kernel
theorem own_d6_799 : decode method_2_code 799 = .ok (.bipush 112, 2) := by decide +kernel
theorem own_d6_801 : decode method_2_code 801 = .ok (.castore, 1) := by decide +kernel
theorem own_d6_802 : decode method_2_code 802 = .ok (.dup, 1) := by decide +kernel
theorem own_d6_803 : decode method_2_code 803 = .ok (.bipush 13, 2) := by decide +kernel
theorem own_d6_805 : decode method_2_code 805 = .ok (.bipush 101, 2) := by decide +kernel
theorem own_d6_807 : decode method_2_code 807 = .ok (.castore, 1) := by decide +kernel
theorem own_d6_808 : decode method_2_code 808 = .ok (.dup, 1) := by decide +kernel
theorem own_d6_809 : decode method_2_code 809 = .ok (.bipush 14, 2) := by decide +kernel
theorem own_d6_811 : decode method_2_code 811 = .ok (.bipush 110, 2) := by decide +kernel
theorem own_d6_813 : decode method_2_code 813 = .ok (.castore, 1) := by decide +kernel
theorem own_d6_814 : decode method_2_code 814 = .ok (.dup, 1) := by decide +kernel
theorem own_d6_815 : decode method_2_code 815 = .ok (.bipush 15, 2) := by decide +kernel
theorem own_d6_817 : decode method_2_code 817 = .ok (.bipush 97, 2) := by decide +kernel
theorem own_d6_819 : decode method_2_code 819 = .ok (.castore, 1) := by decide +kernel
theorem own_d6_820 : decode method_2_code 820 = .ok (.dup, 1) := by decide +kernel
theorem own_d6_821 : decode method_2_code 821 = .ok (.bipush 16, 2) := by decide +kernel
theorem own_d6_823 : decode method_2_code 823 = .ok (.bipush 114, 2) := by decide +kernel
theorem own_d6_825 : decode method_2_code 825 = .ok (.castore, 1) := by decide +kernel
theorem own_d6_826 : decode method_2_code 826 = .ok (.dup, 1) := by decide +kernel
theorem own_d6_827 : decode method_2_code 827 = .ok (.bipush 17, 2) := by decide +kernel
theorem own_d6_829 : decode method_2_code 829 = .ok (.bipush 99, 2) := by decide +kernel
theorem own_d6_831 : decode method_2_code 831 = .ok (.castore, 1) := by decide +kernel
theorem own_d6_832 : decode method_2_code 832 = .ok (.dup, 1) := by decide +kernel
theorem own_d6_833 : decode method_2_code 833 = .ok (.bipush 18, 2) := by decide +kernel
theorem own_d6_835 : decode method_2_code 835 = .ok (.bipush 104, 2) := by decide +kernel
theorem own_d6_837 : decode method_2_code 837 = .ok (.castore, 1) := by decide +kernel
theorem own_d6_838 : decode method_2_code 838 = .ok (.dup, 1) := by decide +kernel
theorem own_d6_839 : decode method_2_code 839 = .ok (.bipush 19, 2) := by decide +kernel
theorem own_d6_841 : decode method_2_code 841 = .ok (.bipush 105, 2) := by decide +kernel
theorem own_d6_843 : decode method_2_code 843 = .ok (.castore, 1) := by decide +kernel
theorem own_d6_844 : decode method_2_code 844 = .ok (.dup, 1) := by decide +kernel
theorem own_d6_845 : decode method_2_code 845 = .ok (.bipush 20, 2) := by decide +kernel
theorem own_d6_847 : decode method_2_code 847 = .ok (.bipush 118, 2) := by decide +kernel
theorem own_d6_849 : decode method_2_code 849 = .ok (.castore, 1) := by decide +kernel
theorem own_d6_850 : decode method_2_code 850 = .ok (.dup, 1) := by decide +kernel
theorem own_d6_851 : decode method_2_code 851 = .ok (.bipush 21, 2) := by decide +kernel
theorem own_d6_853 : decode method_2_code 853 = .ok (.bipush 101, 2) := by decide +kernel
theorem own_d6_855 : decode method_2_code 855 = .ok (.castore, 1) := by decide +kernel
theorem own_d6_856 : decode method_2_code 856 = .ok (.dup, 1) := by decide +kernel
theorem own_d6_857 : decode method_2_code 857 = .ok (.bipush 22, 2) := by decide +kernel
theorem own_d6_859 : decode method_2_code 859 = .ok (.bipush 115, 2) := by decide +kernel
theorem own_d6_861 : decode method_2_code 861 = .ok (.castore, 1) := by decide +kernel
theorem own_d6_862 : decode method_2_code 862 = .ok (.dup, 1) := by decide +kernel
theorem own_d6_863 : decode method_2_code 863 = .ok (.bipush 23, 2) := by decide +kernel
theorem own_d6_865 : decode method_2_code 865 = .ok (.bipush 46, 2) := by decide +kernel
theorem own_d6_867 : decode method_2_code 867 = .ok (.castore, 1) := by decide +kernel
theorem own_d6_868 : decode method_2_code 868 = .ok (.dup, 1) := by decide +kernel
theorem own_d6_869 : decode method_2_code 869 = .ok (.bipush 24, 2) := by decide +kernel
theorem own_d6_871 : decode method_2_code 871 = .ok (.bipush 111, 2) := by decide +kernel
theorem own_d6_873 : decode method_2_code 873 = .ok (.castore, 1) := by decide +kernel
theorem own_d6_874 : decode method_2_code 874 = .ok (.dup, 1) := by decide +kernel
theorem own_d6_875 : decode method_2_code 875 = .ok (.bipush 25, 2) := by decide +kernel
theorem own_d6_877 : decode method_2_code 877 = .ok (.bipush 114, 2) := by decide +kernel
theorem own_d6_879 : decode method_2_code 879 = .ok (.castore, 1) := by decide +kernel
theorem own_d6_880 : decode method_2_code 880 = .ok (.dup, 1) := by decide +kernel
theorem own_d6_881 : decode method_2_code 881 = .ok (.bipush 26, 2) := by decide +kernel
theorem own_d6_883 : decode method_2_code 883 = .ok (.bipush 103, 2) := by decide +kernel
theorem own_d6_885 : decode method_2_code 885 = .ok (.castore, 1) := by decide +kernel
theorem own_d6_886 : decode method_2_code 886 = .ok (.dup, 1) := by decide +kernel
theorem own_d6_887 : decode method_2_code 887 = .ok (.bipush 27, 2) := by decide +kernel
theorem own_d6_889 : decode method_2_code 889 = .ok (.bipush 47, 2) := by decide +kernel
theorem own_d6_891 : decode method_2_code 891 = .ok (.castore, 1) := by decide +kernel
theorem own_d6_892 : decode method_2_code 892 = .ok (.dup, 1) := by decide +kernel
theorem own_d6_893 : decode method_2_code 893 = .ok (.bipush 28, 2) := by decide +kernel
theorem own_d6_895 : decode method_2_code 895 = .ok (.bipush 79, 2) := by decide +kernel
theorem own_d6_897 : decode method_2_code 897 = .ok (.castore, 1) := by decide +kernel
theorem own_d6_898 : decode method_2_code 898 = .ok (.dup, 1) := by decide +kernel
theorem own_d6_899 : decode method_2_code 899 = .ok (.bipush 29, 2) := by decide +kernel
theorem own_d6_901 : decode method_2_code 901 = .ok (.bipush 65, 2) := by decide +kernel
theorem own_d6_903 : decode method_2_code 903 = .ok (.castore, 1) := by decide +kernel
theorem own_d6_904 : decode method_2_code 904 = .ok (.dup, 1) := by decide +kernel
theorem own_d6_905 : decode method_2_code 905 = .ok (.bipush 30, 2) := by decide +kernel
theorem own_d6_907 : decode method_2_code 907 = .ok (.bipush 73, 2) := by decide +kernel
theorem own_d6_909 : decode method_2_code 909 = .ok (.castore, 1) := by decide +kernel
theorem own_d6_910 : decode method_2_code 910 = .ok (.dup, 1) := by decide +kernel
theorem own_d6_911 : decode method_2_code 911 = .ok (.bipush 31, 2) := by decide +kernel
theorem own_d6_913 : decode method_2_code 913 = .ok (.bipush 47, 2) := by decide +kernel
theorem own_d6_915 : decode method_2_code 915 = .ok (.castore, 1) := by decide +kernel
theorem own_d6_916 : decode method_2_code 916 = .ok (.dup, 1) := by decide +kernel
theorem own_d6_917 : decode method_2_code 917 = .ok (.bipush 32, 2) := by decide +kernel
theorem own_d6_919 : decode method_2_code 919 = .ok (.bipush 50, 2) := by decide +kernel
theorem own_d6_921 : decode method_2_code 921 = .ok (.castore, 1) := by decide +kernel
theorem own_d6_922 : decode method_2_code 922 = .ok (.dup, 1) := by decide +kernel
theorem own_d6_923 : decode method_2_code 923 = .ok (.bipush 33, 2) := by decide +kernel
theorem own_d6_925 : decode method_2_code 925 = .ok (.bipush 46, 2) := by decide +kernel
theorem own_d6_927 : decode method_2_code 927 = .ok (.castore, 1) := by decide +kernel
theorem own_d6_928 : decode method_2_code 928 = .ok (.dup, 1) := by decide +kernel
theorem own_d6_929 : decode method_2_code 929 = .ok (.bipush 34, 2) := by decide +kernel
theorem own_d6_931 : decode method_2_code 931 = .ok (.bipush 48, 2) := by decide +kernel
theorem own_d6_933 : decode method_2_code 933 = .ok (.castore, 1) := by decide +kernel
theorem own_d6_934 : decode method_2_code 934 = .ok (.areturn, 1) := by decide +kernel
theorem own_ef_own_ns5 (m : MethodId)  : entryFrame m #[(.int 5)] 1 = mkF m 0 #[iv 5] [] := by first | (simp [entryFrame, mkF, argsToLocals, Value.category]; done) | rfl
set_option maxRecDepth 65536 in
set_option maxHeartbeats 40000000 in
theorem own_ns5 (l : Launch) (Z : State) (a0 : Array Value) (H : own_Wld Z a0) {cw : List Jvm.Cond}  (h0 : Heap) (O0 : Ext Z.heap h0) :
    Own.Con l Z consts_1 (⟨"com/example/scholiast/scholiast/ModsReaderNeedsChildElementPinLaw", "nsChars", "(I)[C"⟩ : MethodName) method_2_code 1 (some (.array .char)) cw ({ frames := 0, cells := 1, slots := 35, locals := 0 } : Room) #[(.int 5)] h0 (fun v h => Keep h0 h [] ∧ ∃ x kc, v = some (.ref x) ∧ h0.size ≤ x ∧ Arv Z h x kc .char (35 : Int32) (own_L5.map Value.int) (.int 0)) := by
  have hw := H.1
  have hW := fun (i : Nat) (w : Jvm.Cond) (e : tables_1[i]? = some w) => hw w (List.mem_of_getElem? e)
  have hCm := H.2.1
  have hSi := H.2.2.1
  have hEL := H.2.2.2
  have hWs : ∀ d ∈ StrChars.Road.words, d.before a0 Z = true := fun d hd => hw d (own_wbackV d hd)
  have hWe : ∀ d ∈ StrChars.Road.wordsEq, d.before a0 Z = true := fun d hd => hw d (own_weqW d hd)
  have hSA : ∀ d ∈ Bundle.stringAtoms, d.before a0 Z = true := fun d hd => hw d (own_wSA d hd)
  refine Own.Con.of own_pnb9cc79 hEL O0 ?_
  intro p e s m below meth c T0 G vm0 hx hby hml hret hnm hG hR S0
  have hz : ∀ L : Array Slot, L.size = 1 → L.size = c.maxLocals := fun L q => q.trans hml.symm
  rw [own_ef_own_ns5]
  show G T0 (mkF m 0 #[iv 5] [])
  refine hG.st (fun t q => XS.iloadN S0.here hx rfl (hb hby own_d6_0) rfl (XS.ifYes S0.here hx rfl (pc0 := 1) (pc' := 159) rfl (hb hby own_d6_1) rfl ((if0 _ _).trans (feq (by decide : ¬ ((5 : Int32) = (0 : Int32)))).2) (by decide) (by decide) (XS.iloadN S0.here hx rfl (hb hby own_d6_159) rfl (XS.iconst S0.here hx rfl (hb hby own_d6_160) (XS.icmpYes S0.here hx rfl (pc0 := 161) (pc' := 379) rfl (hb hby own_d6_161) rfl (feq (by decide : ¬ ((5 : Int32) = (1 : Int32)))).2 (by decide) (by decide) (XS.iloadN S0.here hx rfl (hb hby own_d6_379) rfl q)))))) ?_
  show G T0 (mkF m 380 #[iv 5] [(.int 5)])
  refine hG.st (fun t q => XS.iconst S0.here hx rfl (hb hby own_d6_380) (XS.icmpYes S0.here hx rfl (pc0 := 381) (pc' := 551) rfl (hb hby own_d6_381) rfl (feq (by decide : ¬ ((5 : Int32) = (2 : Int32)))).2 (by decide) (by decide) (XS.iloadN S0.here hx rfl (hb hby own_d6_551) rfl (XS.iconst S0.here hx rfl (hb hby own_d6_552) (XS.icmpYes S0.here hx rfl (pc0 := 553) (pc' := 560) rfl (hb hby own_d6_553) rfl (feq (by decide : ¬ ((5 : Int32) = (3 : Int32)))).2 (by decide) (by decide) (XS.iloadN S0.here hx rfl (hb hby own_d6_560) rfl q)))))) ?_
  show G T0 (mkF m 561 #[iv 5] [(.int 5)])
  refine hG.st (fun t q => XS.iconst S0.here hx rfl (hb hby own_d6_561) (XS.icmpYes S0.here hx rfl (pc0 := 562) (pc' := 726) rfl (hb hby own_d6_562) rfl (feq (by decide : ¬ ((5 : Int32) = (4 : Int32)))).2 (by decide) (by decide) (XS.bipush S0.here hx rfl (hb hby own_d6_726) q))) ?_
  show G T0 (mkF m 728 #[iv 5] [(.int 35)])
  refine Own.Sit.newP hG S0 hx (aty := .char) (hW 4 _ rfl) rfl (hb hby own_d6_728) rfl (by decide) (cap := 35) (by decide) (by decide) (by decide) (by decide) (fun T293 h293 x293 k293 g_x293 S293 J293 Sf293 (V293 : Arv Z h293 x293 k293 .char (35 : Int32) (List.map Value.int (0::0::0::0::0::0::0::0::0::0::0::0::0::0::0::0::0::0::0::0::0::0::0::0::0::0::0::0::0::0::0::0::0::0::0::[])) (.int 0)) => ?_)
  have lt_x293 := V293.lt
  have ga_x293 : Z.heap.size ≤ x293 := Nat.le_trans S0.le (Nat.le_of_eq g_x293.symm)
  refine hG.st (fun t q => XS.dup S293.here hx rfl (hb hby own_d6_730) rfl rfl (XS.iconst S293.here hx rfl (hb hby own_d6_731) (XS.bipush S293.here hx rfl (hb hby own_d6_732) q))) ?_
  show G T293 (mkF m 734 #[iv 5] [(.int 104), (.int 0), (.ref x293), (.ref x293)])
  refine Own.Sit.stC hG S293 hx V293 ga_x293 ⟨by decide, by decide⟩ 0 rfl (Nat.le_of_ble_eq_true rfl) rfl rfl (hb hby own_d6_734) (fun T294 h294 S294 J294 (V294 : Arv Z h294 x293 k293 .char (35 : Int32) (List.map Value.int (104::0::0::0::0::0::0::0::0::0::0::0::0::0::0::0::0::0::0::0::0::0::0::0::0::0::0::0::0::0::0::0::0::0::0::[])) (.int 0)) => ?_)
  refine hG.st (fun t q => XS.dup S294.here hx rfl (hb hby own_d6_735) rfl rfl (XS.iconst S294.here hx rfl (hb hby own_d6_736) (XS.bipush S294.here hx rfl (hb hby own_d6_737) q))) ?_
  show G T294 (mkF m 739 #[iv 5] [(.int 116), (.int 1), (.ref x293), (.ref x293)])
  refine Own.Sit.stC hG S294 hx V294 ga_x293 ⟨by decide, by decide⟩ 1 rfl (Nat.le_of_ble_eq_true rfl) rfl rfl (hb hby own_d6_739) (fun T295 h295 S295 J295 (V295 : Arv Z h295 x293 k293 .char (35 : Int32) (List.map Value.int (104::116::0::0::0::0::0::0::0::0::0::0::0::0::0::0::0::0::0::0::0::0::0::0::0::0::0::0::0::0::0::0::0::0::0::[])) (.int 0)) => ?_)
  refine hG.st (fun t q => XS.dup S295.here hx rfl (hb hby own_d6_740) rfl rfl (XS.iconst S295.here hx rfl (hb hby own_d6_741) (XS.bipush S295.here hx rfl (hb hby own_d6_742) q))) ?_
  show G T295 (mkF m 744 #[iv 5] [(.int 116), (.int 2), (.ref x293), (.ref x293)])
  refine Own.Sit.stC hG S295 hx V295 ga_x293 ⟨by decide, by decide⟩ 2 rfl (Nat.le_of_ble_eq_true rfl) rfl rfl (hb hby own_d6_744) (fun T296 h296 S296 J296 (V296 : Arv Z h296 x293 k293 .char (35 : Int32) (List.map Value.int (104::116::116::0::0::0::0::0::0::0::0::0::0::0::0::0::0::0::0::0::0::0::0::0::0::0::0::0::0::0::0::0::0::0::0::[])) (.int 0)) => ?_)
  refine hG.st (fun t q => XS.dup S296.here hx rfl (hb hby own_d6_745) rfl rfl (XS.iconst S296.here hx rfl (hb hby own_d6_746) (XS.bipush S296.here hx rfl (hb hby own_d6_747) q))) ?_
  show G T296 (mkF m 749 #[iv 5] [(.int 112), (.int 3), (.ref x293), (.ref x293)])
  refine Own.Sit.stC hG S296 hx V296 ga_x293 ⟨by decide, by decide⟩ 3 rfl (Nat.le_of_ble_eq_true rfl) rfl rfl (hb hby own_d6_749) (fun T297 h297 S297 J297 (V297 : Arv Z h297 x293 k293 .char (35 : Int32) (List.map Value.int (104::116::116::112::0::0::0::0::0::0::0::0::0::0::0::0::0::0::0::0::0::0::0::0::0::0::0::0::0::0::0::0::0::0::0::[])) (.int 0)) => ?_)
  refine hG.st (fun t q => XS.dup S297.here hx rfl (hb hby own_d6_750) rfl rfl (XS.iconst S297.here hx rfl (hb hby own_d6_751) (XS.bipush S297.here hx rfl (hb hby own_d6_752) q))) ?_
  show G T297 (mkF m 754 #[iv 5] [(.int 58), (.int 4), (.ref x293), (.ref x293)])
  refine Own.Sit.stC hG S297 hx V297 ga_x293 ⟨by decide, by decide⟩ 4 rfl (Nat.le_of_ble_eq_true rfl) rfl rfl (hb hby own_d6_754) (fun T298 h298 S298 J298 (V298 : Arv Z h298 x293 k293 .char (35 : Int32) (List.map Value.int (104::116::116::112::58::0::0::0::0::0::0::0::0::0::0::0::0::0::0::0::0::0::0::0::0::0::0::0::0::0::0::0::0::0::0::[])) (.int 0)) => ?_)
  refine hG.st (fun t q => XS.dup S298.here hx rfl (hb hby own_d6_755) rfl rfl (XS.iconst S298.here hx rfl (hb hby own_d6_756) (XS.bipush S298.here hx rfl (hb hby own_d6_757) q))) ?_
  show G T298 (mkF m 759 #[iv 5] [(.int 47), (.int 5), (.ref x293), (.ref x293)])
  refine Own.Sit.stC hG S298 hx V298 ga_x293 ⟨by decide, by decide⟩ 5 rfl (Nat.le_of_ble_eq_true rfl) rfl rfl (hb hby own_d6_759) (fun T299 h299 S299 J299 (V299 : Arv Z h299 x293 k293 .char (35 : Int32) (List.map Value.int (104::116::116::112::58::47::0::0::0::0::0::0::0::0::0::0::0::0::0::0::0::0::0::0::0::0::0::0::0::0::0::0::0::0::0::[])) (.int 0)) => ?_)
  refine hG.st (fun t q => XS.dup S299.here hx rfl (hb hby own_d6_760) rfl rfl (XS.bipush S299.here hx rfl (hb hby own_d6_761) (XS.bipush S299.here hx rfl (hb hby own_d6_763) q))) ?_
  show G T299 (mkF m 765 #[iv 5] [(.int 47), (.int 6), (.ref x293), (.ref x293)])
  refine Own.Sit.stC hG S299 hx V299 ga_x293 ⟨by decide, by decide⟩ 6 rfl (Nat.le_of_ble_eq_true rfl) rfl rfl (hb hby own_d6_765) (fun T300 h300 S300 J300 (V300 : Arv Z h300 x293 k293 .char (35 : Int32) (List.map Value.int (104::116::116::112::58::47::47::0::0::0::0::0::0::0::0::0::0::0::0::0::0::0::0::0::0::0::0::0::0::0::0::0::0::0::0::[])) (.int 0)) => ?_)
  refine hG.st (fun t q => XS.dup S300.here hx rfl (hb hby own_d6_766) rfl rfl (XS.bipush S300.here hx rfl (hb hby own_d6_767) (XS.bipush S300.here hx rfl (hb hby own_d6_769) q))) ?_
  show G T300 (mkF m 771 #[iv 5] [(.int 119), (.int 7), (.ref x293), (.ref x293)])
  refine Own.Sit.stC hG S300 hx V300 ga_x293 ⟨by decide, by decide⟩ 7 rfl (Nat.le_of_ble_eq_true rfl) rfl rfl (hb hby own_d6_771) (fun T301 h301 S301 J301 (V301 : Arv Z h301 x293 k293 .char (35 : Int32) (List.map Value.int (104::116::116::112::58::47::47::119::0::0::0::0::0::0::0::0::0::0::0::0::0::0::0::0::0::0::0::0::0::0::0::0::0::0::0::[])) (.int 0)) => ?_)
  refine hG.st (fun t q => XS.dup S301.here hx rfl (hb hby own_d6_772) rfl rfl (XS.bipush S301.here hx rfl (hb hby own_d6_773) (XS.bipush S301.here hx rfl (hb hby own_d6_775) q))) ?_
  show G T301 (mkF m 777 #[iv 5] [(.int 119), (.int 8), (.ref x293), (.ref x293)])
  refine Own.Sit.stC hG S301 hx V301 ga_x293 ⟨by decide, by decide⟩ 8 rfl (Nat.le_of_ble_eq_true rfl) rfl rfl (hb hby own_d6_777) (fun T302 h302 S302 J302 (V302 : Arv Z h302 x293 k293 .char (35 : Int32) (List.map Value.int (104::116::116::112::58::47::47::119::119::0::0::0::0::0::0::0::0::0::0::0::0::0::0::0::0::0::0::0::0::0::0::0::0::0::0::[])) (.int 0)) => ?_)
  refine hG.st (fun t q => XS.dup S302.here hx rfl (hb hby own_d6_778) rfl rfl (XS.bipush S302.here hx rfl (hb hby own_d6_779) (XS.bipush S302.here hx rfl (hb hby own_d6_781) q))) ?_
  show G T302 (mkF m 783 #[iv 5] [(.int 119), (.int 9), (.ref x293), (.ref x293)])
  refine Own.Sit.stC hG S302 hx V302 ga_x293 ⟨by decide, by decide⟩ 9 rfl (Nat.le_of_ble_eq_true rfl) rfl rfl (hb hby own_d6_783) (fun T303 h303 S303 J303 (V303 : Arv Z h303 x293 k293 .char (35 : Int32) (List.map Value.int (104::116::116::112::58::47::47::119::119::119::0::0::0::0::0::0::0::0::0::0::0::0::0::0::0::0::0::0::0::0::0::0::0::0::0::[])) (.int 0)) => ?_)
  refine hG.st (fun t q => XS.dup S303.here hx rfl (hb hby own_d6_784) rfl rfl (XS.bipush S303.here hx rfl (hb hby own_d6_785) (XS.bipush S303.here hx rfl (hb hby own_d6_787) q))) ?_
  show G T303 (mkF m 789 #[iv 5] [(.int 46), (.int 10), (.ref x293), (.ref x293)])
  refine Own.Sit.stC hG S303 hx V303 ga_x293 ⟨by decide, by decide⟩ 10 rfl (Nat.le_of_ble_eq_true rfl) rfl rfl (hb hby own_d6_789) (fun T304 h304 S304 J304 (V304 : Arv Z h304 x293 k293 .char (35 : Int32) (List.map Value.int (104::116::116::112::58::47::47::119::119::119::46::0::0::0::0::0::0::0::0::0::0::0::0::0::0::0::0::0::0::0::0::0::0::0::0::[])) (.int 0)) => ?_)
  refine hG.st (fun t q => XS.dup S304.here hx rfl (hb hby own_d6_790) rfl rfl (XS.bipush S304.here hx rfl (hb hby own_d6_791) (XS.bipush S304.here hx rfl (hb hby own_d6_793) q))) ?_
  show G T304 (mkF m 795 #[iv 5] [(.int 111), (.int 11), (.ref x293), (.ref x293)])
  refine Own.Sit.stC hG S304 hx V304 ga_x293 ⟨by decide, by decide⟩ 11 rfl (Nat.le_of_ble_eq_true rfl) rfl rfl (hb hby own_d6_795) (fun T305 h305 S305 J305 (V305 : Arv Z h305 x293 k293 .char (35 : Int32) (List.map Value.int (104::116::116::112::58::47::47::119::119::119::46::111::0::0::0::0::0::0::0::0::0::0::0::0::0::0::0::0::0::0::0::0::0::0::0::[])) (.int 0)) => ?_)
  refine hG.st (fun t q => XS.dup S305.here hx rfl (hb hby own_d6_796) rfl rfl (XS.bipush S305.here hx rfl (hb hby own_d6_797) (XS.bipush S305.here hx rfl (hb hby own_d6_799) q))) ?_
  show G T305 (mkF m 801 #[iv 5] [(.int 112), (.int 12), (.ref x293), (.ref x293)])
  refine Own.Sit.stC hG S305 hx V305 ga_x293 ⟨by decide, by decide⟩ 12 rfl (Nat.le_of_ble_eq_true rfl) rfl rfl (hb hby own_d6_801) (fun T306 h306 S306 J306 (V306 : Arv Z h306 x293 k293 .char (35 : Int32) (List.map Value.int (104::116::116::112::58::47::47::119::119::119::46::111::112::0::0::0::0::0::0::0::0::0::0::0::0::0::0::0::0::0::0::0::0::0::0::[])) (.int 0)) => ?_)
  refine hG.st (fun t q => XS.dup S306.here hx rfl (hb hby own_d6_802) rfl rfl (XS.bipush S306.here hx rfl (hb hby own_d6_803) (XS.bipush S306.here hx rfl (hb hby own_d6_805) q))) ?_
  show G T306 (mkF m 807 #[iv 5] [(.int 101), (.int 13), (.ref x293), (.ref x293)])
  refine Own.Sit.stC hG S306 hx V306 ga_x293 ⟨by decide, by decide⟩ 13 rfl (Nat.le_of_ble_eq_true rfl) rfl rfl (hb hby own_d6_807) (fun T307 h307 S307 J307 (V307 : Arv Z h307 x293 k293 .char (35 : Int32) (List.map Value.int (104::116::116::112::58::47::47::119::119::119::46::111::112::101::0::0::0::0::0::0::0::0::0::0::0::0::0::0::0::0::0::0::0::0::0::[])) (.int 0)) => ?_)
  refine hG.st (fun t q => XS.dup S307.here hx rfl (hb hby own_d6_808) rfl rfl (XS.bipush S307.here hx rfl (hb hby own_d6_809) (XS.bipush S307.here hx rfl (hb hby own_d6_811) q))) ?_
  show G T307 (mkF m 813 #[iv 5] [(.int 110), (.int 14), (.ref x293), (.ref x293)])
  refine Own.Sit.stC hG S307 hx V307 ga_x293 ⟨by decide, by decide⟩ 14 rfl (Nat.le_of_ble_eq_true rfl) rfl rfl (hb hby own_d6_813) (fun T308 h308 S308 J308 (V308 : Arv Z h308 x293 k293 .char (35 : Int32) (List.map Value.int (104::116::116::112::58::47::47::119::119::119::46::111::112::101::110::0::0::0::0::0::0::0::0::0::0::0::0::0::0::0::0::0::0::0::0::[])) (.int 0)) => ?_)
  refine hG.st (fun t q => XS.dup S308.here hx rfl (hb hby own_d6_814) rfl rfl (XS.bipush S308.here hx rfl (hb hby own_d6_815) (XS.bipush S308.here hx rfl (hb hby own_d6_817) q))) ?_
  show G T308 (mkF m 819 #[iv 5] [(.int 97), (.int 15), (.ref x293), (.ref x293)])
  refine Own.Sit.stC hG S308 hx V308 ga_x293 ⟨by decide, by decide⟩ 15 rfl (Nat.le_of_ble_eq_true rfl) rfl rfl (hb hby own_d6_819) (fun T309 h309 S309 J309 (V309 : Arv Z h309 x293 k293 .char (35 : Int32) (List.map Value.int (104::116::116::112::58::47::47::119::119::119::46::111::112::101::110::97::0::0::0::0::0::0::0::0::0::0::0::0::0::0::0::0::0::0::0::[])) (.int 0)) => ?_)
  refine hG.st (fun t q => XS.dup S309.here hx rfl (hb hby own_d6_820) rfl rfl (XS.bipush S309.here hx rfl (hb hby own_d6_821) (XS.bipush S309.here hx rfl (hb hby own_d6_823) q))) ?_
  show G T309 (mkF m 825 #[iv 5] [(.int 114), (.int 16), (.ref x293), (.ref x293)])
  refine Own.Sit.stC hG S309 hx V309 ga_x293 ⟨by decide, by decide⟩ 16 rfl (Nat.le_of_ble_eq_true rfl) rfl rfl (hb hby own_d6_825) (fun T310 h310 S310 J310 (V310 : Arv Z h310 x293 k293 .char (35 : Int32) (List.map Value.int (104::116::116::112::58::47::47::119::119::119::46::111::112::101::110::97::114::0::0::0::0::0::0::0::0::0::0::0::0::0::0::0::0::0::0::[])) (.int 0)) => ?_)
  refine hG.st (fun t q => XS.dup S310.here hx rfl (hb hby own_d6_826) rfl rfl (XS.bipush S310.here hx rfl (hb hby own_d6_827) (XS.bipush S310.here hx rfl (hb hby own_d6_829) q))) ?_
  show G T310 (mkF m 831 #[iv 5] [(.int 99), (.int 17), (.ref x293), (.ref x293)])
  refine Own.Sit.stC hG S310 hx V310 ga_x293 ⟨by decide, by decide⟩ 17 rfl (Nat.le_of_ble_eq_true rfl) rfl rfl (hb hby own_d6_831) (fun T311 h311 S311 J311 (V311 : Arv Z h311 x293 k293 .char (35 : Int32) (List.map Value.int (104::116::116::112::58::47::47::119::119::119::46::111::112::101::110::97::114::99::0::0::0::0::0::0::0::0::0::0::0::0::0::0::0::0::0::[])) (.int 0)) => ?_)
  refine hG.st (fun t q => XS.dup S311.here hx rfl (hb hby own_d6_832) rfl rfl (XS.bipush S311.here hx rfl (hb hby own_d6_833) (XS.bipush S311.here hx rfl (hb hby own_d6_835) q))) ?_
  show G T311 (mkF m 837 #[iv 5] [(.int 104), (.int 18), (.ref x293), (.ref x293)])
  refine Own.Sit.stC hG S311 hx V311 ga_x293 ⟨by decide, by decide⟩ 18 rfl (Nat.le_of_ble_eq_true rfl) rfl rfl (hb hby own_d6_837) (fun T312 h312 S312 J312 (V312 : Arv Z h312 x293 k293 .char (35 : Int32) (List.map Value.int (104::116::116::112::58::47::47::119::119::119::46::111::112::101::110::97::114::99::104::0::0::0::0::0::0::0::0::0::0::0::0::0::0::0::0::[])) (.int 0)) => ?_)
  refine hG.st (fun t q => XS.dup S312.here hx rfl (hb hby own_d6_838) rfl rfl (XS.bipush S312.here hx rfl (hb hby own_d6_839) (XS.bipush S312.here hx rfl (hb hby own_d6_841) q))) ?_
  show G T312 (mkF m 843 #[iv 5] [(.int 105), (.int 19), (.ref x293), (.ref x293)])
  refine Own.Sit.stC hG S312 hx V312 ga_x293 ⟨by decide, by decide⟩ 19 rfl (Nat.le_of_ble_eq_true rfl) rfl rfl (hb hby own_d6_843) (fun T313 h313 S313 J313 (V313 : Arv Z h313 x293 k293 .char (35 : Int32) (List.map Value.int (104::116::116::112::58::47::47::119::119::119::46::111::112::101::110::97::114::99::104::105::0::0::0::0::0::0::0::0::0::0::0::0::0::0::0::[])) (.int 0)) => ?_)
  refine hG.st (fun t q => XS.dup S313.here hx rfl (hb hby own_d6_844) rfl rfl (XS.bipush S313.here hx rfl (hb hby own_d6_845) (XS.bipush S313.here hx rfl (hb hby own_d6_847) q))) ?_
  show G T313 (mkF m 849 #[iv 5] [(.int 118), (.int 20), (.ref x293), (.ref x293)])
  refine Own.Sit.stC hG S313 hx V313 ga_x293 ⟨by decide, by decide⟩ 20 rfl (Nat.le_of_ble_eq_true rfl) rfl rfl (hb hby own_d6_849) (fun T314 h314 S314 J314 (V314 : Arv Z h314 x293 k293 .char (35 : Int32) (List.map Value.int (104::116::116::112::58::47::47::119::119::119::46::111::112::101::110::97::114::99::104::105::118::0::0::0::0::0::0::0::0::0::0::0::0::0::0::[])) (.int 0)) => ?_)
  refine hG.st (fun t q => XS.dup S314.here hx rfl (hb hby own_d6_850) rfl rfl (XS.bipush S314.here hx rfl (hb hby own_d6_851) (XS.bipush S314.here hx rfl (hb hby own_d6_853) q))) ?_
  show G T314 (mkF m 855 #[iv 5] [(.int 101), (.int 21), (.ref x293), (.ref x293)])
  refine Own.Sit.stC hG S314 hx V314 ga_x293 ⟨by decide, by decide⟩ 21 rfl (Nat.le_of_ble_eq_true rfl) rfl rfl (hb hby own_d6_855) (fun T315 h315 S315 J315 (V315 : Arv Z h315 x293 k293 .char (35 : Int32) (List.map Value.int (104::116::116::112::58::47::47::119::119::119::46::111::112::101::110::97::114::99::104::105::118::101::0::0::0::0::0::0::0::0::0::0::0::0::0::[])) (.int 0)) => ?_)
  refine hG.st (fun t q => XS.dup S315.here hx rfl (hb hby own_d6_856) rfl rfl (XS.bipush S315.here hx rfl (hb hby own_d6_857) (XS.bipush S315.here hx rfl (hb hby own_d6_859) q))) ?_
  show G T315 (mkF m 861 #[iv 5] [(.int 115), (.int 22), (.ref x293), (.ref x293)])
  refine Own.Sit.stC hG S315 hx V315 ga_x293 ⟨by decide, by decide⟩ 22 rfl (Nat.le_of_ble_eq_true rfl) rfl rfl (hb hby own_d6_861) (fun T316 h316 S316 J316 (V316 : Arv Z h316 x293 k293 .char (35 : Int32) (List.map Value.int (104::116::116::112::58::47::47::119::119::119::46::111::112::101::110::97::114::99::104::105::118::101::115::0::0::0::0::0::0::0::0::0::0::0::0::[])) (.int 0)) => ?_)
  refine hG.st (fun t q => XS.dup S316.here hx rfl (hb hby own_d6_862) rfl rfl (XS.bipush S316.here hx rfl (hb hby own_d6_863) (XS.bipush S316.here hx rfl (hb hby own_d6_865) q))) ?_
  show G T316 (mkF m 867 #[iv 5] [(.int 46), (.int 23), (.ref x293), (.ref x293)])
  refine Own.Sit.stC hG S316 hx V316 ga_x293 ⟨by decide, by decide⟩ 23 rfl (Nat.le_of_ble_eq_true rfl) rfl rfl (hb hby own_d6_867) (fun T317 h317 S317 J317 (V317 : Arv Z h317 x293 k293 .char (35 : Int32) (List.map Value.int (104::116::116::112::58::47::47::119::119::119::46::111::112::101::110::97::114::99::104::105::118::101::115::46::0::0::0::0::0::0::0::0::0::0::0::[])) (.int 0)) => ?_)
  refine hG.st (fun t q => XS.dup S317.here hx rfl (hb hby own_d6_868) rfl rfl (XS.bipush S317.here hx rfl (hb hby own_d6_869) (XS.bipush S317.here hx rfl (hb hby own_d6_871) q))) ?_
  show G T317 (mkF m 873 #[iv 5] [(.int 111), (.int 24), (.ref x293), (.ref x293)])
  refine Own.Sit.stC hG S317 hx V317 ga_x293 ⟨by decide, by decide⟩ 24 rfl (Nat.le_of_ble_eq_true rfl) rfl rfl (hb hby own_d6_873) (fun T318 h318 S318 J318 (V318 : Arv Z h318 x293 k293 .char (35 : Int32) (List.map Value.int (104::116::116::112::58::47::47::119::119::119::46::111::112::101::110::97::114::99::104::105::118::101::115::46::111::0::0::0::0::0::0::0::0::0::0::[])) (.int 0)) => ?_)
  refine hG.st (fun t q => XS.dup S318.here hx rfl (hb hby own_d6_874) rfl rfl (XS.bipush S318.here hx rfl (hb hby own_d6_875) (XS.bipush S318.here hx rfl (hb hby own_d6_877) q))) ?_
  show G T318 (mkF m 879 #[iv 5] [(.int 114), (.int 25), (.ref x293), (.ref x293)])
  refine Own.Sit.stC hG S318 hx V318 ga_x293 ⟨by decide, by decide⟩ 25 rfl (Nat.le_of_ble_eq_true rfl) rfl rfl (hb hby own_d6_879) (fun T319 h319 S319 J319 (V319 : Arv Z h319 x293 k293 .char (35 : Int32) (List.map Value.int (104::116::116::112::58::47::47::119::119::119::46::111::112::101::110::97::114::99::104::105::118::101::115::46::111::114::0::0::0::0::0::0::0::0::0::[])) (.int 0)) => ?_)
  refine hG.st (fun t q => XS.dup S319.here hx rfl (hb hby own_d6_880) rfl rfl (XS.bipush S319.here hx rfl (hb hby own_d6_881) (XS.bipush S319.here hx rfl (hb hby own_d6_883) q))) ?_
  show G T319 (mkF m 885 #[iv 5] [(.int 103), (.int 26), (.ref x293), (.ref x293)])
  refine Own.Sit.stC hG S319 hx V319 ga_x293 ⟨by decide, by decide⟩ 26 rfl (Nat.le_of_ble_eq_true rfl) rfl rfl (hb hby own_d6_885) (fun T320 h320 S320 J320 (V320 : Arv Z h320 x293 k293 .char (35 : Int32) (List.map Value.int (104::116::116::112::58::47::47::119::119::119::46::111::112::101::110::97::114::99::104::105::118::101::115::46::111::114::103::0::0::0::0::0::0::0::0::[])) (.int 0)) => ?_)
  refine hG.st (fun t q => XS.dup S320.here hx rfl (hb hby own_d6_886) rfl rfl (XS.bipush S320.here hx rfl (hb hby own_d6_887) (XS.bipush S320.here hx rfl (hb hby own_d6_889) q))) ?_
  show G T320 (mkF m 891 #[iv 5] [(.int 47), (.int 27), (.ref x293), (.ref x293)])
  refine Own.Sit.stC hG S320 hx V320 ga_x293 ⟨by decide, by decide⟩ 27 rfl (Nat.le_of_ble_eq_true rfl) rfl rfl (hb hby own_d6_891) (fun T321 h321 S321 J321 (V321 : Arv Z h321 x293 k293 .char (35 : Int32) (List.map Value.int (104::116::116::112::58::47::47::119::119::119::46::111::112::101::110::97::114::99::104::105::118::101::115::46::111::114::103::47::0::0::0::0::0::0::0::[])) (.int 0)) => ?_)
  refine hG.st (fun t q => XS.dup S321.here hx rfl (hb hby own_d6_892) rfl rfl (XS.bipush S321.here hx rfl (hb hby own_d6_893) (XS.bipush S321.here hx rfl (hb hby own_d6_895) q))) ?_
  show G T321 (mkF m 897 #[iv 5] [(.int 79), (.int 28), (.ref x293), (.ref x293)])
  refine Own.Sit.stC hG S321 hx V321 ga_x293 ⟨by decide, by decide⟩ 28 rfl (Nat.le_of_ble_eq_true rfl) rfl rfl (hb hby own_d6_897) (fun T322 h322 S322 J322 (V322 : Arv Z h322 x293 k293 .char (35 : Int32) (List.map Value.int (104::116::116::112::58::47::47::119::119::119::46::111::112::101::110::97::114::99::104::105::118::101::115::46::111::114::103::47::79::0::0::0::0::0::0::[])) (.int 0)) => ?_)
  refine hG.st (fun t q => XS.dup S322.here hx rfl (hb hby own_d6_898) rfl rfl (XS.bipush S322.here hx rfl (hb hby own_d6_899) (XS.bipush S322.here hx rfl (hb hby own_d6_901) q))) ?_
  show G T322 (mkF m 903 #[iv 5] [(.int 65), (.int 29), (.ref x293), (.ref x293)])
  refine Own.Sit.stC hG S322 hx V322 ga_x293 ⟨by decide, by decide⟩ 29 rfl (Nat.le_of_ble_eq_true rfl) rfl rfl (hb hby own_d6_903) (fun T323 h323 S323 J323 (V323 : Arv Z h323 x293 k293 .char (35 : Int32) (List.map Value.int (104::116::116::112::58::47::47::119::119::119::46::111::112::101::110::97::114::99::104::105::118::101::115::46::111::114::103::47::79::65::0::0::0::0::0::[])) (.int 0)) => ?_)
  refine hG.st (fun t q => XS.dup S323.here hx rfl (hb hby own_d6_904) rfl rfl (XS.bipush S323.here hx rfl (hb hby own_d6_905) (XS.bipush S323.here hx rfl (hb hby own_d6_907) q))) ?_
  show G T323 (mkF m 909 #[iv 5] [(.int 73), (.int 30), (.ref x293), (.ref x293)])
  refine Own.Sit.stC hG S323 hx V323 ga_x293 ⟨by decide, by decide⟩ 30 rfl (Nat.le_of_ble_eq_true rfl) rfl rfl (hb hby own_d6_909) (fun T324 h324 S324 J324 (V324 : Arv Z h324 x293 k293 .char (35 : Int32) (List.map Value.int (104::116::116::112::58::47::47::119::119::119::46::111::112::101::110::97::114::99::104::105::118::101::115::46::111::114::103::47::79::65::73::0::0::0::0::[])) (.int 0)) => ?_)
  refine hG.st (fun t q => XS.dup S324.here hx rfl (hb hby own_d6_910) rfl rfl (XS.bipush S324.here hx rfl (hb hby own_d6_911) (XS.bipush S324.here hx rfl (hb hby own_d6_913) q))) ?_
  show G T324 (mkF m 915 #[iv 5] [(.int 47), (.int 31), (.ref x293), (.ref x293)])
  refine Own.Sit.stC hG S324 hx V324 ga_x293 ⟨by decide, by decide⟩ 31 rfl (Nat.le_of_ble_eq_true rfl) rfl rfl (hb hby own_d6_915) (fun T325 h325 S325 J325 (V325 : Arv Z h325 x293 k293 .char (35 : Int32) (List.map Value.int (104::116::116::112::58::47::47::119::119::119::46::111::112::101::110::97::114::99::104::105::118::101::115::46::111::114::103::47::79::65::73::47::0::0::0::[])) (.int 0)) => ?_)
  refine hG.st (fun t q => XS.dup S325.here hx rfl (hb hby own_d6_916) rfl rfl (XS.bipush S325.here hx rfl (hb hby own_d6_917) (XS.bipush S325.here hx rfl (hb hby own_d6_919) q))) ?_
  show G T325 (mkF m 921 #[iv 5] [(.int 50), (.int 32), (.ref x293), (.ref x293)])
  refine Own.Sit.stC hG S325 hx V325 ga_x293 ⟨by decide, by decide⟩ 32 rfl (Nat.le_of_ble_eq_true rfl) rfl rfl (hb hby own_d6_921) (fun T326 h326 S326 J326 (V326 : Arv Z h326 x293 k293 .char (35 : Int32) (List.map Value.int (104::116::116::112::58::47::47::119::119::119::46::111::112::101::110::97::114::99::104::105::118::101::115::46::111::114::103::47::79::65::73::47::50::0::0::[])) (.int 0)) => ?_)
  refine hG.st (fun t q => XS.dup S326.here hx rfl (hb hby own_d6_922) rfl rfl (XS.bipush S326.here hx rfl (hb hby own_d6_923) (XS.bipush S326.here hx rfl (hb hby own_d6_925) q))) ?_
  show G T326 (mkF m 927 #[iv 5] [(.int 46), (.int 33), (.ref x293), (.ref x293)])
  refine Own.Sit.stC hG S326 hx V326 ga_x293 ⟨by decide, by decide⟩ 33 rfl (Nat.le_of_ble_eq_true rfl) rfl rfl (hb hby own_d6_927) (fun T327 h327 S327 J327 (V327 : Arv Z h327 x293 k293 .char (35 : Int32) (List.map Value.int (104::116::116::112::58::47::47::119::119::119::46::111::112::101::110::97::114::99::104::105::118::101::115::46::111::114::103::47::79::65::73::47::50::46::0::[])) (.int 0)) => ?_)
  refine hG.st (fun t q => XS.dup S327.here hx rfl (hb hby own_d6_928) rfl rfl (XS.bipush S327.here hx rfl (hb hby own_d6_929) (XS.bipush S327.here hx rfl (hb hby own_d6_931) q))) ?_
  show G T327 (mkF m 933 #[iv 5] [(.int 48), (.int 34), (.ref x293), (.ref x293)])
  refine Own.Sit.stC hG S327 hx V327 ga_x293 ⟨by decide, by decide⟩ 34 rfl (Nat.le_of_ble_eq_true rfl) rfl rfl (hb hby own_d6_933) (fun T328 h328 S328 J328 (V328 : Arv Z h328 x293 k293 .char (35 : Int32) (List.map Value.int (104::116::116::112::58::47::47::119::119::119::46::111::112::101::110::97::114::99::104::105::118::101::115::46::111::114::103::47::79::65::73::47::50::46::48::[])) (.int 0)) => ?_)
  have J329 : Own.Stp Z consts_1 vm0 h0 vm0 h294 [] := Own.Stp.trans J293 J294 (all0) (allS (Or.inr (Nat.le_of_eq g_x293.symm)) all0)
  have J330 : Own.Stp Z consts_1 vm0 h0 vm0 h295 [] := Own.Stp.trans J329 J295 (all0) (allS (Or.inr (Nat.le_of_eq g_x293.symm)) all0)
  have J331 : Own.Stp Z consts_1 vm0 h0 vm0 h296 [] := Own.Stp.trans J330 J296 (all0) (allS (Or.inr (Nat.le_of_eq g_x293.symm)) all0)
  have J332 : Own.Stp Z consts_1 vm0 h0 vm0 h297 [] := Own.Stp.trans J331 J297 (all0) (allS (Or.inr (Nat.le_of_eq g_x293.symm)) all0)
  have J333 : Own.Stp Z consts_1 vm0 h0 vm0 h298 [] := Own.Stp.trans J332 J298 (all0) (allS (Or.inr (Nat.le_of_eq g_x293.symm)) all0)
  have J334 : Own.Stp Z consts_1 vm0 h0 vm0 h299 [] := Own.Stp.trans J333 J299 (all0) (allS (Or.inr (Nat.le_of_eq g_x293.symm)) all0)
  have J335 : Own.Stp Z consts_1 vm0 h0 vm0 h300 [] := Own.Stp.trans J334 J300 (all0) (allS (Or.inr (Nat.le_of_eq g_x293.symm)) all0)
  have J336 : Own.Stp Z consts_1 vm0 h0 vm0 h301 [] := Own.Stp.trans J335 J301 (all0) (allS (Or.inr (Nat.le_of_eq g_x293.symm)) all0)
  have J337 : Own.Stp Z consts_1 vm0 h0 vm0 h302 [] := Own.Stp.trans J336 J302 (all0) (allS (Or.inr (Nat.le_of_eq g_x293.symm)) all0)
  have J338 : Own.Stp Z consts_1 vm0 h0 vm0 h303 [] := Own.Stp.trans J337 J303 (all0) (allS (Or.inr (Nat.le_of_eq g_x293.symm)) all0)
  have J339 : Own.Stp Z consts_1 vm0 h0 vm0 h304 [] := Own.Stp.trans J338 J304 (all0) (allS (Or.inr (Nat.le_of_eq g_x293.symm)) all0)
  have J340 : Own.Stp Z consts_1 vm0 h0 vm0 h305 [] := Own.Stp.trans J339 J305 (all0) (allS (Or.inr (Nat.le_of_eq g_x293.symm)) all0)
  have J341 : Own.Stp Z consts_1 vm0 h0 vm0 h306 [] := Own.Stp.trans J340 J306 (all0) (allS (Or.inr (Nat.le_of_eq g_x293.symm)) all0)
  have J342 : Own.Stp Z consts_1 vm0 h0 vm0 h307 [] := Own.Stp.trans J341 J307 (all0) (allS (Or.inr (Nat.le_of_eq g_x293.symm)) all0)
  have J343 : Own.Stp Z consts_1 vm0 h0 vm0 h308 [] := Own.Stp.trans J342 J308 (all0) (allS (Or.inr (Nat.le_of_eq g_x293.symm)) all0)
  have J344 : Own.Stp Z consts_1 vm0 h0 vm0 h309 [] := Own.Stp.trans J343 J309 (all0) (allS (Or.inr (Nat.le_of_eq g_x293.symm)) all0)
  have J345 : Own.Stp Z consts_1 vm0 h0 vm0 h310 [] := Own.Stp.trans J344 J310 (all0) (allS (Or.inr (Nat.le_of_eq g_x293.symm)) all0)
  have J346 : Own.Stp Z consts_1 vm0 h0 vm0 h311 [] := Own.Stp.trans J345 J311 (all0) (allS (Or.inr (Nat.le_of_eq g_x293.symm)) all0)
  have J347 : Own.Stp Z consts_1 vm0 h0 vm0 h312 [] := Own.Stp.trans J346 J312 (all0) (allS (Or.inr (Nat.le_of_eq g_x293.symm)) all0)
  have J348 : Own.Stp Z consts_1 vm0 h0 vm0 h313 [] := Own.Stp.trans J347 J313 (all0) (allS (Or.inr (Nat.le_of_eq g_x293.symm)) all0)
  have J349 : Own.Stp Z consts_1 vm0 h0 vm0 h314 [] := Own.Stp.trans J348 J314 (all0) (allS (Or.inr (Nat.le_of_eq g_x293.symm)) all0)
  have J350 : Own.Stp Z consts_1 vm0 h0 vm0 h315 [] := Own.Stp.trans J349 J315 (all0) (allS (Or.inr (Nat.le_of_eq g_x293.symm)) all0)
  have J351 : Own.Stp Z consts_1 vm0 h0 vm0 h316 [] := Own.Stp.trans J350 J316 (all0) (allS (Or.inr (Nat.le_of_eq g_x293.symm)) all0)
  have J352 : Own.Stp Z consts_1 vm0 h0 vm0 h317 [] := Own.Stp.trans J351 J317 (all0) (allS (Or.inr (Nat.le_of_eq g_x293.symm)) all0)
  have J353 : Own.Stp Z consts_1 vm0 h0 vm0 h318 [] := Own.Stp.trans J352 J318 (all0) (allS (Or.inr (Nat.le_of_eq g_x293.symm)) all0)
  have J354 : Own.Stp Z consts_1 vm0 h0 vm0 h319 [] := Own.Stp.trans J353 J319 (all0) (allS (Or.inr (Nat.le_of_eq g_x293.symm)) all0)
  have J355 : Own.Stp Z consts_1 vm0 h0 vm0 h320 [] := Own.Stp.trans J354 J320 (all0) (allS (Or.inr (Nat.le_of_eq g_x293.symm)) all0)
  have J356 : Own.Stp Z consts_1 vm0 h0 vm0 h321 [] := Own.Stp.trans J355 J321 (all0) (allS (Or.inr (Nat.le_of_eq g_x293.symm)) all0)
  have J357 : Own.Stp Z consts_1 vm0 h0 vm0 h322 [] := Own.Stp.trans J356 J322 (all0) (allS (Or.inr (Nat.le_of_eq g_x293.symm)) all0)
  have J358 : Own.Stp Z consts_1 vm0 h0 vm0 h323 [] := Own.Stp.trans J357 J323 (all0) (allS (Or.inr (Nat.le_of_eq g_x293.symm)) all0)
  have J359 : Own.Stp Z consts_1 vm0 h0 vm0 h324 [] := Own.Stp.trans J358 J324 (all0) (allS (Or.inr (Nat.le_of_eq g_x293.symm)) all0)
  have J360 : Own.Stp Z consts_1 vm0 h0 vm0 h325 [] := Own.Stp.trans J359 J325 (all0) (allS (Or.inr (Nat.le_of_eq g_x293.symm)) all0)
  have J361 : Own.Stp Z consts_1 vm0 h0 vm0 h326 [] := Own.Stp.trans J360 J326 (all0) (allS (Or.inr (Nat.le_of_eq g_x293.symm)) all0)
  have J362 : Own.Stp Z consts_1 vm0 h0 vm0 h327 [] := Own.Stp.trans J361 J327 (all0) (allS (Or.inr (Nat.le_of_eq g_x293.symm)) all0)
  have J363 : Own.Stp Z consts_1 vm0 h0 vm0 h328 [] := Own.Stp.trans J362 J328 (all0) (allS (Or.inr (Nat.le_of_eq g_x293.symm)) all0)
  show G T328 (mkF m 934 #[iv 5] [(.ref x293)])
  exact Own.Sit.retO hR S328 hx hret rfl (Or.inr (Or.inr (Or.inr (Or.inr ⟨rfl, rfl, rfl⟩)))) (hb hby own_d6_934) (by decide) (by decide) ⟨J363.1, x293, _, rfl, (Nat.le_of_eq g_x293.symm), V328⟩
theorem own_pn87ea0b : plainFor (⟨"com/example/scholiast/scholiast/ModsReaderNeedsChildElementPinLaw", "nameChars", "(I)[C"⟩ : MethodName) = true := by first | exact plainFor_of_name (by first | (simp [plainName, overriddenIn]; done) | decide +kernel) | decide +kernel
theorem own_d7_0 : decode method_3_code 0 = .ok (.iload_n 0, 1) := by decide +kernel
theorem own_d7_1 : decode method_3_code 1 = .ok (.ifCond .ne 27, 3) := by decide +kernel
theorem own_d7_4 : decode method_3_code 4 = .ok (.iconst 4, 1) := by decide +kernel
theorem own_d7_5 : decode method_3_code 5 = .ok (.newarray .char, 2) := by decide +kernel
theorem own_d7_7 : decode method_3_code 7 = .ok (.dup, 1) := by decide +kernel
theorem own_d7_8 : decode method_3_code 8 = .ok (.iconst 0, 1) := by decide +kernel
theorem own_d7_9 : decode method_3_code 9 = .ok (.bipush 109, 2) := by decide +kernel
theorem own_d7_11 : decode method_3_code 11 = .ok (.castore, 1) := by decide +kernel
theorem own_d7_12 : decode method_3_code 12 = .ok (.dup, 1) := by decide +kernel
theorem own_d7_13 : decode method_3_code 13 = .ok (.iconst 1, 1) := by decide +kernel
theorem own_d7_14 : decode method_3_code 14 = .ok (.bipush 111, 2) := by decide +kernel
theorem own_d7_16 : decode method_3_code 16 = .ok (.castore, 1) := by decide +kernel
theorem own_d7_17 : decode method_3_code 17 = .ok (.dup, 1) := by decide +kernel
theorem own_d7_18 : decode method_3_code 18 = .ok (.iconst 2, 1) := by decide +kernel
theorem own_d7_19 : decode method_3_code 19 = .ok (.bipush 100, 2) := by decide +kernel
theorem own_d7_21 : decode method_3_code 21 = .ok (.castore, 1) := by decide +kernel
theorem own_d7_22 : decode method_3_code 22 = .ok (.dup, 1) := by decide +kernel
theorem own_d7_23 : decode method_3_code 23 = .ok (.iconst 3, 1) := by decide +kernel
theorem own_d7_24 : decode method_3_code 24 = .ok (.bipush 115, 2) := by decide +kernel
theorem own_d7_26 : decode method_3_code 26 = .ok (.castore, 1) := by decide +kernel
theorem own_d7_27 : decode method_3_code 27 = .ok (.areturn, 1) := by decide +kernel
theorem own_ef_own_nm0 (m : MethodId)  : entryFrame m #[(.int 0)] 1 = mkF m 0 #[iv 0] [] := by first | (simp [entryFrame, mkF, argsToLocals, Value.category]; done) | rfl
set_option maxRecDepth 65536 in
set_option maxHeartbeats 40000000 in
theorem own_nm0 (l : Launch) (Z : State) (a0 : Array Value) (H : own_Wld Z a0) {cw : List Jvm.Cond}  (h0 : Heap) (O0 : Ext Z.heap h0) :
    Own.Con l Z consts_1 (⟨"com/example/scholiast/scholiast/ModsReaderNeedsChildElementPinLaw", "nameChars", "(I)[C"⟩ : MethodName) method_3_code 1 (some (.array .char)) cw ({ frames := 0, cells := 1, slots := 4, locals := 0 } : Room) #[(.int 0)] h0 (fun v h => Keep h0 h [] ∧ ∃ x kc, v = some (.ref x) ∧ h0.size ≤ x ∧ Arv Z h x kc .char (4 : Int32) (own_M0.map Value.int) (.int 0)) := by
  have hw := H.1
  have hW := fun (i : Nat) (w : Jvm.Cond) (e : tables_1[i]? = some w) => hw w (List.mem_of_getElem? e)
  have hCm := H.2.1
  have hSi := H.2.2.1
  have hEL := H.2.2.2
  have hWs : ∀ d ∈ StrChars.Road.words, d.before a0 Z = true := fun d hd => hw d (own_wbackV d hd)
  have hWe : ∀ d ∈ StrChars.Road.wordsEq, d.before a0 Z = true := fun d hd => hw d (own_weqW d hd)
  have hSA : ∀ d ∈ Bundle.stringAtoms, d.before a0 Z = true := fun d hd => hw d (own_wSA d hd)
  refine Own.Con.of own_pn87ea0b hEL O0 ?_
  intro p e s m below meth c T0 G vm0 hx hby hml hret hnm hG hR S0
  have hz : ∀ L : Array Slot, L.size = 1 → L.size = c.maxLocals := fun L q => q.trans hml.symm
  rw [own_ef_own_nm0]
  show G T0 (mkF m 0 #[iv 0] [])
  refine hG.st (fun t q => XS.iloadN S0.here hx rfl (hb hby own_d7_0) rfl (XS.ifNo S0.here hx rfl (hb hby own_d7_1) rfl ((if0 _ _).trans (teq (by decide : (0 : Int32) = (0 : Int32))).2) (XS.iconst S0.here hx rfl (hb hby own_d7_4) q))) ?_
  show G T0 (mkF m 5 #[iv 0] [(.int 4)])
  refine Own.Sit.newP hG S0 hx (aty := .char) (hW 4 _ rfl) rfl (hb hby own_d7_5) rfl (by decide) (cap := 4) (by decide) (by decide) (by decide) (by decide) (fun T364 h364 x364 k364 g_x364 S364 J364 Sf364 (V364 : Arv Z h364 x364 k364 .char (4 : Int32) [(.int 0), (.int 0), (.int 0), (.int 0)] (.int 0)) => ?_)
  have lt_x364 := V364.lt
  have ga_x364 : Z.heap.size ≤ x364 := Nat.le_trans S0.le (Nat.le_of_eq g_x364.symm)
  refine hG.st (fun t q => XS.dup S364.here hx rfl (hb hby own_d7_7) rfl rfl (XS.iconst S364.here hx rfl (hb hby own_d7_8) (XS.bipush S364.here hx rfl (hb hby own_d7_9) q))) ?_
  show G T364 (mkF m 11 #[iv 0] [(.int 109), (.int 0), (.ref x364), (.ref x364)])
  refine Own.Sit.stC hG S364 hx V364 ga_x364 ⟨by decide, by decide⟩ 0 rfl (Nat.le_of_ble_eq_true rfl) rfl rfl (hb hby own_d7_11) (fun T365 h365 S365 J365 (V365 : Arv Z h365 x364 k364 .char (4 : Int32) [(.int 109), (.int 0), (.int 0), (.int 0)] (.int 0)) => ?_)
  refine hG.st (fun t q => XS.dup S365.here hx rfl (hb hby own_d7_12) rfl rfl (XS.iconst S365.here hx rfl (hb hby own_d7_13) (XS.bipush S365.here hx rfl (hb hby own_d7_14) q))) ?_
  show G T365 (mkF m 16 #[iv 0] [(.int 111), (.int 1), (.ref x364), (.ref x364)])
  refine Own.Sit.stC hG S365 hx V365 ga_x364 ⟨by decide, by decide⟩ 1 rfl (Nat.le_of_ble_eq_true rfl) rfl rfl (hb hby own_d7_16) (fun T366 h366 S366 J366 (V366 : Arv Z h366 x364 k364 .char (4 : Int32) [(.int 109), (.int 111), (.int 0), (.int 0)] (.int 0)) => ?_)
  refine hG.st (fun t q => XS.dup S366.here hx rfl (hb hby own_d7_17) rfl rfl (XS.iconst S366.here hx rfl (hb hby own_d7_18) (XS.bipush S366.here hx rfl (hb hby own_d7_19) q))) ?_
  show G T366 (mkF m 21 #[iv 0] [(.int 100), (.int 2), (.ref x364), (.ref x364)])
  refine Own.Sit.stC hG S366 hx V366 ga_x364 ⟨by decide, by decide⟩ 2 rfl (Nat.le_of_ble_eq_true rfl) rfl rfl (hb hby own_d7_21) (fun T367 h367 S367 J367 (V367 : Arv Z h367 x364 k364 .char (4 : Int32) [(.int 109), (.int 111), (.int 100), (.int 0)] (.int 0)) => ?_)
  refine hG.st (fun t q => XS.dup S367.here hx rfl (hb hby own_d7_22) rfl rfl (XS.iconst S367.here hx rfl (hb hby own_d7_23) (XS.bipush S367.here hx rfl (hb hby own_d7_24) q))) ?_
  show G T367 (mkF m 26 #[iv 0] [(.int 115), (.int 3), (.ref x364), (.ref x364)])
  refine Own.Sit.stC hG S367 hx V367 ga_x364 ⟨by decide, by decide⟩ 3 rfl (Nat.le_of_ble_eq_true rfl) rfl rfl (hb hby own_d7_26) (fun T368 h368 S368 J368 (V368 : Arv Z h368 x364 k364 .char (4 : Int32) [(.int 109), (.int 111), (.int 100), (.int 115)] (.int 0)) => ?_)
  have J369 : Own.Stp Z consts_1 vm0 h0 vm0 h365 [] := Own.Stp.trans J364 J365 (all0) (allS (Or.inr (Nat.le_of_eq g_x364.symm)) all0)
  have J370 : Own.Stp Z consts_1 vm0 h0 vm0 h366 [] := Own.Stp.trans J369 J366 (all0) (allS (Or.inr (Nat.le_of_eq g_x364.symm)) all0)
  have J371 : Own.Stp Z consts_1 vm0 h0 vm0 h367 [] := Own.Stp.trans J370 J367 (all0) (allS (Or.inr (Nat.le_of_eq g_x364.symm)) all0)
  have J372 : Own.Stp Z consts_1 vm0 h0 vm0 h368 [] := Own.Stp.trans J371 J368 (all0) (allS (Or.inr (Nat.le_of_eq g_x364.symm)) all0)
  show G T368 (mkF m 27 #[iv 0] [(.ref x364)])
  exact Own.Sit.retO hR S368 hx hret rfl (Or.inr (Or.inr (Or.inr (Or.inr ⟨rfl, rfl, rfl⟩)))) (hb hby own_d7_27) (by decide) (by decide) ⟨J372.1, x364, _, rfl, (Nat.le_of_eq g_x364.symm), V368⟩
theorem own_d7_28 : decode method_3_code 28 = .ok (.iload_n 0, 1) := by decide +kernel
theorem own_d7_29 : decode method_3_code 29 = .ok (.iconst 1, 1) := by decide +kernel
theorem own_d7_30 : decode method_3_code 30 = .ok (.if_icmp .ne 116, 3) := by decide +kernel
theorem own_d7_33 : decode method_3_code 33 = .ok (.bipush 19, 2) := by decide +kernel
theorem own_d7_35 : decode method_3_code 35 = .ok (.newarray .char, 2) := by decide +kernel
theorem own_d7_37 : decode method_3_code 37 = .ok (.dup, 1) := by decide +kernel
theorem own_d7_38 : decode method_3_code 38 = .ok (.iconst 0, 1) := by decide +kernel
theorem own_d7_39 : decode method_3_code 39 = .ok (.bipush 112, 2) := by decide +kernel
theorem own_d7_41 : decode method_3_code 41 = .ok (.castore, 1) := by decide +kernel
theorem own_d7_42 : decode method_3_code 42 = .ok (.dup, 1) := by decide +kernel
theorem own_d7_43 : decode method_3_code 43 = .ok (.iconst 1, 1) := by decide +kernel
theorem own_d7_44 : decode method_3_code 44 = .ok (.bipush 104, 2) := by decide +kernel
theorem own_d7_46 : decode method_3_code 46 = .ok (.castore, 1) := by decide +kernel
theorem own_d7_47 : decode method_3_code 47 = .ok (.dup, 1) := by decide +kernel
theorem own_d7_48 : decode method_3_code 48 = .ok (.iconst 2, 1) := by decide +kernel
theorem own_d7_49 : decode method_3_code 49 = .ok (.bipush 121, 2) := by decide +kernel
theorem own_d7_51 : decode method_3_code 51 = .ok (.castore, 1) := by decide +kernel
theorem own_d7_52 : decode method_3_code 52 = .ok (.dup, 1) := by decide +kernel
theorem own_d7_53 : decode method_3_code 53 = .ok (.iconst 3, 1) := by decide +kernel
theorem own_d7_54 : decode method_3_code 54 = .ok (.bipush 115, 2) := by decide +kernel
theorem own_d7_56 : decode method_3_code 56 = .ok (.castore, 1) := by decide +kernel
theorem own_d7_57 : decode method_3_code 57 = .ok (.dup, 1) := by decide +kernel
theorem own_d7_58 : decode method_3_code 58 = .ok (.iconst 4, 1) := by decide +kernel
theorem own_d7_59 : decode method_3_code 59 = .ok (.bipush 105, 2) := by decide +kernel
theorem own_d7_61 : decode method_3_code 61 = .ok (.castore, 1) := by decide +kernel
theorem own_d7_62 : decode method_3_code 62 = .ok (.dup, 1) := by decide +kernel
theorem own_d7_63 : decode method_3_code 63 = .ok (.iconst 5, 1) := by decide +kernel
theorem own_d7_64 : decode method_3_code 64 = .ok (.bipush 99, 2) := by decide +kernel
theorem own_d7_66 : decode method_3_code 66 = .ok (.castore, 1) := by decide +kernel
theorem own_d7_67 : decode method_3_code 67 = .ok (.dup, 1) := by decide +kernel
theorem own_d7_68 : decode method_3_code 68 = .ok (.bipush 6, 2) := by decide +kernel
theorem own_d7_70 : decode method_3_code 70 = .ok (.bipush 97, 2) := by decide +kernel
theorem own_d7_72 : decode method_3_code 72 = .ok (.castore, 1) := by decide +kernel
theorem own_d7_73 : decode method_3_code 73 = .ok (.dup, 1) := by decide +kernel
theorem own_d7_74 : decode method_3_code 74 = .ok (.bipush 7, 2) := by decide +kernel
theorem own_d7_76 : decode method_3_code 76 = .ok (.bipush 108, 2) := by decide +kernel
theorem own_d7_78 : decode method_3_code 78 = .ok (.castore, 1) := by decide +kernel
theorem own_d7_79 : decode method_3_code 79 = .ok (.dup, 1) := by decide +kernel
theorem own_d7_80 : decode method_3_code 80 = .ok (.bipush 8, 2) := by decide +kernel
theorem own_d7_82 : decode method_3_code 82 = .ok (.bipush 68, 2) := by decide +kernel
theorem own_d7_84 : decode method_3_code 84 = .ok (.castore, 1) := by decide +kernel
theorem own_d7_85 : decode method_3_code 85 = .ok (.dup, 1) := by decide +kernel
theorem own_d7_86 : decode method_3_code 86 = .ok (.bipush 9, 2) := by decide +kernel
theorem own_d7_88 : decode method_3_code 88 = .ok (.bipush 101, 2) := by decide +kernel
theorem own_d7_90 : decode method_3_code 90 = .ok (.castore, 1) := by decide +kernel
theorem own_d7_91 : decode method_3_code 91 = .ok (.dup, 1) := by decide +kernel
theorem own_d7_92 : decode method_3_code 92 = .ok (.bipush 10, 2) := by decide +kernel
theorem own_d7_94 : decode method_3_code 94 = .ok (.bipush 115, 2) := by decide +kernel
theorem own_d7_96 : decode method_3_code 96 = .ok (.castore, 1) := by decide +kernel
theorem own_d7_97 : decode method_3_code 97 = .ok (.dup, 1) := by decide +kernel
theorem own_d7_98 : decode method_3_code 98 = .ok (.bipush 11, 2) := by decide +kernel
theorem own_d7_100 : decode method_3_code 100 = .ok (.bipush 99, 2) := by decide +kernel
theorem own_d7_102 : decode method_3_code 102 = .ok (.castore, 1) := by decide +kernel
theorem own_d7_103 : decode method_3_code 103 = .ok (.dup, 1) := by decide +kernel
theorem own_d7_104 : decode method_3_code 104 = .ok (.bipush 12, 2) := by decide +kernel
theorem own_d7_106 : decode method_3_code 106 = .ok (.bipush 114, 2) := by decide +kernel
theorem own_d7_108 : decode method_3_code 108 = .ok (.castore, 1) := by decide +kernel
theorem own_d7_109 : decode method_3_code 109 = .ok (.dup, 1) := by decide +kernel
theorem own_d7_110 : decode method_3_code 110 = .ok (.bipush 13, 2) := by decide +kernel
theorem own_d7_112 : decode method_3_code 112 = .ok (.bipush 105, 2) := by decide +kernel
theorem own_d7_114 : decode method_3_code 114 = .ok (.castore, 1) := by decide +kernel
theorem own_d7_115 : decode method_3_code 115 = .ok (.dup, 1) := by decide +kernel
theorem own_d7_116 : decode method_3_code 116 = .ok (.bipush 14, 2) := by decide +kernel
theorem own_d7_118 : decode method_3_code 118 = .ok (.bipush 112, 2) := by decide +kernel
theorem own_d7_120 : decode method_3_code 120 = .ok (.castore, 1) := by decide +kernel
theorem own_d7_121 : decode method_3_code 121 = .ok (.dup, 1) := by decide +kernel
theorem own_d7_122 : decode method_3_code 122 = .ok (.bipush 15, 2) := by decide +kernel
theorem own_d7_124 : decode method_3_code 124 = .ok (.bipush 116, 2) := by decide +kernel
theorem own_d7_126 : decode method_3_code 126 = .ok (.castore, 1) := by decide +kernel
theorem own_d7_127 : decode method_3_code 127 = .ok (.dup, 1) := by decide +kernel
theorem own_d7_128 : decode method_3_code 128 = .ok (.bipush 16, 2) := by decide +kernel
theorem own_d7_130 : decode method_3_code 130 = .ok (.bipush 105, 2) := by decide +kernel
theorem own_d7_132 : decode method_3_code 132 = .ok (.castore, 1) := by decide +kernel
theorem own_d7_133 : decode method_3_code 133 = .ok (.dup, 1) := by decide +kernel
theorem own_d7_134 : decode method_3_code 134 = .ok (.bipush 17, 2) := by decide +kernel
theorem own_d7_136 : decode method_3_code 136 = .ok (.bipush 111, 2) := by decide +kernel
theorem own_d7_138 : decode method_3_code 138 = .ok (.castore, 1) := by decide +kernel
theorem own_d7_139 : decode method_3_code 139 = .ok (.dup, 1) := by decide +kernel
theorem own_d7_140 : decode method_3_code 140 = .ok (.bipush 18, 2) := by decide +kernel
theorem own_d7_142 : decode method_3_code 142 = .ok (.bipush 110, 2) := by decide +kernel
theorem own_d7_144 : decode method_3_code 144 = .ok (.castore, 1) := by decide +kernel
theorem own_d7_145 : decode method_3_code 145 = .ok (.areturn, 1) := by decide +kernel
theorem own_ef_own_nm1 (m : MethodId)  : entryFrame m #[(.int 1)] 1 = mkF m 0 #[iv 1] [] := by first | (simp [entryFrame, mkF, argsToLocals, Value.category]; done) | rfl
set_option maxRecDepth 65536 in
set_option maxHeartbeats 40000000 in
theorem own_nm1 (l : Launch) (Z : State) (a0 : Array Value) (H : own_Wld Z a0) {cw : List Jvm.Cond}  (h0 : Heap) (O0 : Ext Z.heap h0) :
    Own.Con l Z consts_1 (⟨"com/example/scholiast/scholiast/ModsReaderNeedsChildElementPinLaw", "nameChars", "(I)[C"⟩ : MethodName) method_3_code 1 (some (.array .char)) cw ({ frames := 0, cells := 1, slots := 19, locals := 0 } : Room) #[(.int 1)] h0 (fun v h => Keep h0 h [] ∧ ∃ x kc, v = some (.ref x) ∧ h0.size ≤ x ∧ Arv Z h x kc .char (19 : Int32) (own_M1.map Value.int) (.int 0)) := by
  have hw := H.1
  have hW := fun (i : Nat) (w : Jvm.Cond) (e : tables_1[i]? = some w) => hw w (List.mem_of_getElem? e)
  have hCm := H.2.1
  have hSi := H.2.2.1
  have hEL := H.2.2.2
  have hWs : ∀ d ∈ StrChars.Road.words, d.before a0 Z = true := fun d hd => hw d (own_wbackV d hd)
  have hWe : ∀ d ∈ StrChars.Road.wordsEq, d.before a0 Z = true := fun d hd => hw d (own_weqW d hd)
  have hSA : ∀ d ∈ Bundle.stringAtoms, d.before a0 Z = true := fun d hd => hw d (own_wSA d hd)
  refine Own.Con.of own_pn87ea0b hEL O0 ?_
  intro p e s m below meth c T0 G vm0 hx hby hml hret hnm hG hR S0
  have hz : ∀ L : Array Slot, L.size = 1 → L.size = c.maxLocals := fun L q => q.trans hml.symm
  rw [own_ef_own_nm1]
  show G T0 (mkF m 0 #[iv 1] [])
  refine hG.st (fun t q => XS.iloadN S0.here hx rfl (hb hby own_d7_0) rfl (XS.ifYes S0.here hx rfl (pc0 := 1) (pc' := 28) rfl (hb hby own_d7_1) rfl ((if0 _ _).trans (feq (by decide : ¬ ((1 : Int32) = (0 : Int32)))).2) (by decide) (by decide) (XS.iloadN S0.here hx rfl (hb hby own_d7_28) rfl (XS.iconst S0.here hx rfl (hb hby own_d7_29) (XS.icmpNo S0.here hx rfl (hb hby own_d7_30) rfl (teq (by decide : (1 : Int32) = (1 : Int32))).2 (XS.bipush S0.here hx rfl (hb hby own_d7_33) q)))))) ?_
  show G T0 (mkF m 35 #[iv 1] [(.int 19)])
  refine Own.Sit.newP hG S0 hx (aty := .char) (hW 4 _ rfl) rfl (hb hby own_d7_35) rfl (by decide) (cap := 19) (by decide) (by decide) (by decide) (by decide) (fun T373 h373 x373 k373 g_x373 S373 J373 Sf373 (V373 : Arv Z h373 x373 k373 .char (19 : Int32) (List.map Value.int (0::0::0::0::0::0::0::0::0::0::0::0::0::0::0::0::0::0::0::[])) (.int 0)) => ?_)
  have lt_x373 := V373.lt
  have ga_x373 : Z.heap.size ≤ x373 := Nat.le_trans S0.le (Nat.le_of_eq g_x373.symm)
  refine hG.st (fun t q => XS.dup S373.here hx rfl (hb hby own_d7_37) rfl rfl (XS.iconst S373.here hx rfl (hb hby own_d7_38) (XS.bipush S373.here hx rfl (hb hby own_d7_39) q))) ?_
  show G T373 (mkF m 41 #[iv 1] [(.int 112), (.int 0), (.ref x373), (.ref x373)])
  refine Own.Sit.stC hG S373 hx V373 ga_x373 ⟨by decide, by decide⟩ 0 rfl (Nat.le_of_ble_eq_true rfl) rfl rfl (hb hby own_d7_41) (fun T374 h374 S374 J374 (V374 : Arv Z h374 x373 k373 .char (19 : Int32) (List.map Value.int (112::0::0::0::0::0::0::0::0::0::0::0::0::0::0::0::0::0::0::[])) (.int 0)) => ?_)
  refine hG.st (fun t q => XS.dup S374.here hx rfl (hb hby own_d7_42) rfl rfl (XS.iconst S374.here hx rfl (hb hby own_d7_43) (XS.bipush S374.here hx rfl (hb hby own_d7_44) q))) ?_
  show G T374 (mkF m 46 #[iv 1] [(.int 104), (.int 1), (.ref x373), (.ref x373)])
  refine Own.Sit.stC hG S374 hx V374 ga_x373 ⟨by decide, by decide⟩ 1 rfl (Nat.le_of_ble_eq_true rfl) rfl rfl (hb hby own_d7_46) (fun T375 h375 S375 J375 (V375 : Arv Z h375 x373 k373 .char (19 : Int32) (List.map Value.int (112::104::0::0::0::0::0::0::0::0::0::0::0::0::0::0::0::0::0::[])) (.int 0)) => ?_)
  refine hG.st (fun t q => XS.dup S375.here hx rfl (hb hby own_d7_47) rfl rfl (XS.iconst S375.here hx rfl (hb hby own_d7_48) (XS.bipush S375.here hx rfl (hb hby own_d7_49) q))) ?_
  show G T375 (mkF m 51 #[iv 1] [(.int 121), (.int 2), (.ref x373), (.ref x373)])
  refine Own.Sit.stC hG S375 hx V375 ga_x373 ⟨by decide, by decide⟩ 2 rfl (Nat.le_of_ble_eq_true rfl) rfl rfl (hb hby own_d7_51) (fun T376 h376 S376 J376 (V376 : Arv Z h376 x373 k373 .char (19 : Int32) (List.map Value.int (112::104::121::0::0::0::0::0::0::0::0::0::0::0::0::0::0::0::0::[])) (.int 0)) => ?_)
  refine hG.st (fun t q => XS.dup S376.here hx rfl (hb hby own_d7_52) rfl rfl (XS.iconst S376.here hx rfl (hb hby own_d7_53) (XS.bipush S376.here hx rfl (hb hby own_d7_54) q))) ?_
  show G T376 (mkF m 56 #[iv 1] [(.int 115), (.int 3), (.ref x373), (.ref x373)])
  refine Own.Sit.stC hG S376 hx V376 ga_x373 ⟨by decide, by decide⟩ 3 rfl (Nat.le_of_ble_eq_true rfl) rfl rfl (hb hby own_d7_56) (fun T377 h377 S377 J377 (V377 : Arv Z h377 x373 k373 .char (19 : Int32) (List.map Value.int (112::104::121::115::0::0::0::0::0::0::0::0::0::0::0::0::0::0::0::[])) (.int 0)) => ?_)
  refine hG.st (fun t q => XS.dup S377.here hx rfl (hb hby own_d7_57) rfl rfl (XS.iconst S377.here hx rfl (hb hby own_d7_58) (XS.bipush S377.here hx rfl (hb hby own_d7_59) q))) ?_
  show G T377 (mkF m 61 #[iv 1] [(.int 105), (.int 4), (.ref x373), (.ref x373)])
  refine Own.Sit.stC hG S377 hx V377 ga_x373 ⟨by decide, by decide⟩ 4 rfl (Nat.le_of_ble_eq_true rfl) rfl rfl (hb hby own_d7_61) (fun T378 h378 S378 J378 (V378 : Arv Z h378 x373 k373 .char (19 : Int32) (List.map Value.int (112::104::121::115::105::0::0::0::0::0::0::0::0::0::0::0::0::0::0::[])) (.int 0)) => ?_)
  refine hG.st (fun t q => XS.dup S378.here hx rfl (hb hby own_d7_62) rfl rfl (XS.iconst S378.here hx rfl (hb hby own_d7_63) (XS.bipush S378.here hx rfl (hb hby own_d7_64) q))) ?_
  show G T378 (mkF m 66 #[iv 1] [(.int 99), (.int 5), (.ref x373), (.ref x373)])
  refine Own.Sit.stC hG S378 hx V378 ga_x373 ⟨by decide, by decide⟩ 5 rfl (Nat.le_of_ble_eq_true rfl) rfl rfl (hb hby own_d7_66) (fun T379 h379 S379 J379 (V379 : Arv Z h379 x373 k373 .char (19 : Int32) (List.map Value.int (112::104::121::115::105::99::0::0::0::0::0::0::0::0::0::0::0::0::0::[])) (.int 0)) => ?_)
  refine hG.st (fun t q => XS.dup S379.here hx rfl (hb hby own_d7_67) rfl rfl (XS.bipush S379.here hx rfl (hb hby own_d7_68) (XS.bipush S379.here hx rfl (hb hby own_d7_70) q))) ?_
  show G T379 (mkF m 72 #[iv 1] [(.int 97), (.int 6), (.ref x373), (.ref x373)])
  refine Own.Sit.stC hG S379 hx V379 ga_x373 ⟨by decide, by decide⟩ 6 rfl (Nat.le_of_ble_eq_true rfl) rfl rfl (hb hby own_d7_72) (fun T380 h380 S380 J380 (V380 : Arv Z h380 x373 k373 .char (19 : Int32) (List.map Value.int (112::104::121::115::105::99::97::0::0::0::0::0::0::0::0::0::0::0::0::[])) (.int 0)) => ?_)
  refine hG.st (fun t q => XS.dup S380.here hx rfl (hb hby own_d7_73) rfl rfl (XS.bipush S380.here hx rfl (hb hby own_d7_74) (XS.bipush S380.here hx rfl (hb hby own_d7_76) q))) ?_
  show G T380 (mkF m 78 #[iv 1] [(.int 108), (.int 7), (.ref x373), (.ref x373)])
  refine Own.Sit.stC hG S380 hx V380 ga_x373 ⟨by decide, by decide⟩ 7 rfl (Nat.le_of_ble_eq_true rfl) rfl rfl (hb hby own_d7_78) (fun T381 h381 S381 J381 (V381 : Arv Z h381 x373 k373 .char (19 : Int32) (List.map Value.int (112::104::121::115::105::99::97::108::0::0::0::0::0::0::0::0::0::0::0::[])) (.int 0)) => ?_)
  refine hG.st (fun t q => XS.dup S381.here hx rfl (hb hby own_d7_79) rfl rfl (XS.bipush S381.here hx rfl (hb hby own_d7_80) (XS.bipush S381.here hx rfl (hb hby own_d7_82) q))) ?_
  show G T381 (mkF m 84 #[iv 1] [(.int 68), (.int 8), (.ref x373), (.ref x373)])
  refine Own.Sit.stC hG S381 hx V381 ga_x373 ⟨by decide, by decide⟩ 8 rfl (Nat.le_of_ble_eq_true rfl) rfl rfl (hb hby own_d7_84) (fun T382 h382 S382 J382 (V382 : Arv Z h382 x373 k373 .char (19 : Int32) (List.map Value.int (112::104::121::115::105::99::97::108::68::0::0::0::0::0::0::0::0::0::0::[])) (.int 0)) => ?_)
  refine hG.st (fun t q => XS.dup S382.here hx rfl (hb hby own_d7_85) rfl rfl (XS.bipush S382.here hx rfl (hb hby own_d7_86) (XS.bipush S382.here hx rfl (hb hby own_d7_88) q))) ?_
  show G T382 (mkF m 90 #[iv 1] [(.int 101), (.int 9), (.ref x373), (.ref x373)])
  refine Own.Sit.stC hG S382 hx V382 ga_x373 ⟨by decide, by decide⟩ 9 rfl (Nat.le_of_ble_eq_true rfl) rfl rfl (hb hby own_d7_90) (fun T383 h383 S383 J383 (V383 : Arv Z h383 x373 k373 .char (19 : Int32) (List.map Value.int (112::104::121::115::105::99::97::108::68::101::0::0::0::0::0::0::0::0::0::[])) (.int 0)) => ?_)
  refine hG.st (fun t q => XS.dup S383.here hx rfl (hb hby own_d7_91) rfl rfl (XS.bipush S383.here hx rfl (hb hby own_d7_92) (XS.bipush S383.here hx rfl (hb hby own_d7_94) q))) ?_
  show G T383 (mkF m 96 #[iv 1] [(.int 115), (.int 10), (.ref x373), (.ref x373)])
  refine Own.Sit.stC hG S383 hx V383 ga_x373 ⟨by decide, by decide⟩ 10 rfl (Nat.le_of_ble_eq_true rfl) rfl rfl (hb hby own_d7_96) (fun T384 h384 S384 J384 (V384 : Arv Z h384 x373 k373 .char (19 : Int32) (List.map Value.int (112::104::121::115::105::99::97::108::68::101::115::0::0::0::0::0::0::0::0::[])) (.int 0)) => ?_)
  refine hG.st (fun t q => XS.dup S384.here hx rfl (hb hby own_d7_97) rfl rfl (XS.bipush S384.here hx rfl (hb hby own_d7_98) (XS.bipush S384.here hx rfl (hb hby own_d7_100) q))) ?_
  show G T384 (mkF m 102 #[iv 1] [(.int 99), (.int 11), (.ref x373), (.ref x373)])
  refine Own.Sit.stC hG S384 hx V384 ga_x373 ⟨by decide, by decide⟩ 11 rfl (Nat.le_of_ble_eq_true rfl) rfl rfl (hb hby own_d7_102) (fun T385 h385 S385 J385 (V385 : Arv Z h385 x373 k373 .char (19 : Int32) (List.map Value.int (112::104::121::115::105::99::97::108::68::101::115::99::0::0::0::0::0::0::0::[])) (.int 0)) => ?_)
  refine hG.st (fun t q => XS.dup S385.here hx rfl (hb hby own_d7_103) rfl rfl (XS.bipush S385.here hx rfl (hb hby own_d7_104) (XS.bipush S385.here hx rfl (hb hby own_d7_106) q))) ?_
  show G T385 (mkF m 108 #[iv 1] [(.int 114), (.int 12), (.ref x373), (.ref x373)])
  refine Own.Sit.stC hG S385 hx V385 ga_x373 ⟨by decide, by decide⟩ 12 rfl (Nat.le_of_ble_eq_true rfl) rfl rfl (hb hby own_d7_108) (fun T386 h386 S386 J386 (V386 : Arv Z h386 x373 k373 .char (19 : Int32) (List.map Value.int (112::104::121::115::105::99::97::108::68::101::115::99::114::0::0::0::0::0::0::[])) (.int 0)) => ?_)
  refine hG.st (fun t q => XS.dup S386.here hx rfl (hb hby own_d7_109) rfl rfl (XS.bipush S386.here hx rfl (hb hby own_d7_110) (XS.bipush S386.here hx rfl (hb hby own_d7_112) q))) ?_
  show G T386 (mkF m 114 #[iv 1] [(.int 105), (.int 13), (.ref x373), (.ref x373)])
  refine Own.Sit.stC hG S386 hx V386 ga_x373 ⟨by decide, by decide⟩ 13 rfl (Nat.le_of_ble_eq_true rfl) rfl rfl (hb hby own_d7_114) (fun T387 h387 S387 J387 (V387 : Arv Z h387 x373 k373 .char (19 : Int32) (List.map Value.int (112::104::121::115::105::99::97::108::68::101::115::99::114::105::0::0::0::0::0::[])) (.int 0)) => ?_)
  refine hG.st (fun t q => XS.dup S387.here hx rfl (hb hby own_d7_115) rfl rfl (XS.bipush S387.here hx rfl (hb hby own_d7_116) (XS.bipush S387.here hx rfl (hb hby own_d7_118) q))) ?_
  show G T387 (mkF m 120 #[iv 1] [(.int 112), (.int 14), (.ref x373), (.ref x373)])
  refine Own.Sit.stC hG S387 hx V387 ga_x373 ⟨by decide, by decide⟩ 14 rfl (Nat.le_of_ble_eq_true rfl) rfl rfl (hb hby own_d7_120) (fun T388 h388 S388 J388 (V388 : Arv Z h388 x373 k373 .char (19 : Int32) (List.map Value.int (112::104::121::115::105::99::97::108::68::101::115::99::114::105::112::0::0::0::0::[])) (.int 0)) => ?_)
  refine hG.st (fun t q => XS.dup S388.here hx rfl (hb hby own_d7_121) rfl rfl (XS.bipush S388.here hx rfl (hb hby own_d7_122) (XS.bipush S388.here hx rfl (hb hby own_d7_124) q))) ?_
  show G T388 (mkF m 126 #[iv 1] [(.int 116), (.int 15), (.ref x373), (.ref x373)])
  refine Own.Sit.stC hG S388 hx V388 ga_x373 ⟨by decide, by decide⟩ 15 rfl (Nat.le_of_ble_eq_true rfl) rfl rfl (hb hby own_d7_126) (fun T389 h389 S389 J389 (V389 : Arv Z h389 x373 k373 .char (19 : Int32) (List.map Value.int (112::104::121::115::105::99::97::108::68::101::115::99::114::105::112::116::0::0::0::[])) (.int 0)) => ?_)
  refine hG.st (fun t q => XS.dup S389.here hx rfl (hb hby own_d7_127) rfl rfl (XS.bipush S389.here hx rfl (hb hby own_d7_128) (XS.bipush S389.here hx rfl (hb hby own_d7_130) q))) ?_
  show G T389 (mkF m 132 #[iv 1] [(.int 105), (.int 16), (.ref x373), (.ref x373)])
  refine Own.Sit.stC hG S389 hx V389 ga_x373 ⟨by decide, by decide⟩ 16 rfl (Nat.le_of_ble_eq_true rfl) rfl rfl (hb hby own_d7_132) (fun T390 h390 S390 J390 (V390 : Arv Z h390 x373 k373 .char (19 : Int32) (List.map Value.int (112::104::121::115::105::99::97::108::68::101::115::99::114::105::112::116::105::0::0::[])) (.int 0)) => ?_)
  refine hG.st (fun t q => XS.dup S390.here hx rfl (hb hby own_d7_133) rfl rfl (XS.bipush S390.here hx rfl (hb hby own_d7_134) (XS.bipush S390.here hx rfl (hb hby own_d7_136) q))) ?_
  show G T390 (mkF m 138 #[iv 1] [(.int 111), (.int 17), (.ref x373), (.ref x373)])
  refine Own.Sit.stC hG S390 hx V390 ga_x373 ⟨by decide, by decide⟩ 17 rfl (Nat.le_of_ble_eq_true rfl) rfl rfl (hb hby own_d7_138) (fun T391 h391 S391 J391 (V391 : Arv Z h391 x373 k373 .char (19 : Int32) (List.map Value.int (112::104::121::115::105::99::97::108::68::101::115::99::114::105::112::116::105::111::0::[])) (.int 0)) => ?_)
  refine hG.st (fun t q => XS.dup S391.here hx rfl (hb hby own_d7_139) rfl rfl (XS.bipush S391.here hx rfl (hb hby own_d7_140) (XS.bipush S391.here hx rfl (hb hby own_d7_142) q))) ?_
  show G T391 (mkF m 144 #[iv 1] [(.int 110), (.int 18), (.ref x373), (.ref x373)])
  refine Own.Sit.stC hG S391 hx V391 ga_x373 ⟨by decide, by decide⟩ 18 rfl (Nat.le_of_ble_eq_true rfl) rfl rfl (hb hby own_d7_144) (fun T392 h392 S392 J392 (V392 : Arv Z h392 x373 k373 .char (19 : Int32) (List.map Value.int (112::104::121::115::105::99::97::108::68::101::115::99::114::105::112::116::105::111::110::[])) (.int 0)) => ?_)
  have J393 : Own.Stp Z consts_1 vm0 h0 vm0 h374 [] := Own.Stp.trans J373 J374 (all0) (allS (Or.inr (Nat.le_of_eq g_x373.symm)) all0)
  have J394 : Own.Stp Z consts_1 vm0 h0 vm0 h375 [] := Own.Stp.trans J393 J375 (all0) (allS (Or.inr (Nat.le_of_eq g_x373.symm)) all0)
  have J395 : Own.Stp Z consts_1 vm0 h0 vm0 h376 [] := Own.Stp.trans J394 J376 (all0) (allS (Or.inr (Nat.le_of_eq g_x373.symm)) all0)
  have J396 : Own.Stp Z consts_1 vm0 h0 vm0 h377 [] := Own.Stp.trans J395 J377 (all0) (allS (Or.inr (Nat.le_of_eq g_x373.symm)) all0)
  have J397 : Own.Stp Z consts_1 vm0 h0 vm0 h378 [] := Own.Stp.trans J396 J378 (all0) (allS (Or.inr (Nat.le_of_eq g_x373.symm)) all0)
  have J398 : Own.Stp Z consts_1 vm0 h0 vm0 h379 [] := Own.Stp.trans J397 J379 (all0) (allS (Or.inr (Nat.le_of_eq g_x373.symm)) all0)
  have J399 : Own.Stp Z consts_1 vm0 h0 vm0 h380 [] := Own.Stp.trans J398 J380 (all0) (allS (Or.inr (Nat.le_of_eq g_x373.symm)) all0)
  have J400 : Own.Stp Z consts_1 vm0 h0 vm0 h381 [] := Own.Stp.trans J399 J381 (all0) (allS (Or.inr (Nat.le_of_eq g_x373.symm)) all0)
  have J401 : Own.Stp Z consts_1 vm0 h0 vm0 h382 [] := Own.Stp.trans J400 J382 (all0) (allS (Or.inr (Nat.le_of_eq g_x373.symm)) all0)
  have J402 : Own.Stp Z consts_1 vm0 h0 vm0 h383 [] := Own.Stp.trans J401 J383 (all0) (allS (Or.inr (Nat.le_of_eq g_x373.symm)) all0)
  have J403 : Own.Stp Z consts_1 vm0 h0 vm0 h384 [] := Own.Stp.trans J402 J384 (all0) (allS (Or.inr (Nat.le_of_eq g_x373.symm)) all0)
  have J404 : Own.Stp Z consts_1 vm0 h0 vm0 h385 [] := Own.Stp.trans J403 J385 (all0) (allS (Or.inr (Nat.le_of_eq g_x373.symm)) all0)
  have J405 : Own.Stp Z consts_1 vm0 h0 vm0 h386 [] := Own.Stp.trans J404 J386 (all0) (allS (Or.inr (Nat.le_of_eq g_x373.symm)) all0)
  have J406 : Own.Stp Z consts_1 vm0 h0 vm0 h387 [] := Own.Stp.trans J405 J387 (all0) (allS (Or.inr (Nat.le_of_eq g_x373.symm)) all0)
  have J407 : Own.Stp Z consts_1 vm0 h0 vm0 h388 [] := Own.Stp.trans J406 J388 (all0) (allS (Or.inr (Nat.le_of_eq g_x373.symm)) all0)
  have J408 : Own.Stp Z consts_1 vm0 h0 vm0 h389 [] := Own.Stp.trans J407 J389 (all0) (allS (Or.inr (Nat.le_of_eq g_x373.symm)) all0)
  have J409 : Own.Stp Z consts_1 vm0 h0 vm0 h390 [] := Own.Stp.trans J408 J390 (all0) (allS (Or.inr (Nat.le_of_eq g_x373.symm)) all0)
  have J410 : Own.Stp Z consts_1 vm0 h0 vm0 h391 [] := Own.Stp.trans J409 J391 (all0) (allS (Or.inr (Nat.le_of_eq g_x373.symm)) all0)
  have J411 : Own.Stp Z consts_1 vm0 h0 vm0 h392 [] := Own.Stp.trans J410 J392 (all0) (allS (Or.inr (Nat.le_of_eq g_x373.symm)) all0)
  show G T392 (mkF m 145 #[iv 1] [(.ref x373)])
  exact Own.Sit.retO hR S392 hx hret rfl (Or.inr (Or.inr (Or.inr (Or.inr ⟨rfl, rfl, rfl⟩)))) (hb hby own_d7_145) (by decide) (by decide) ⟨J411.1, x373, _, rfl, (Nat.le_of_eq g_x373.symm), V392⟩
theorem own_d7_146 : decode method_3_code 146 = .ok (.iload_n 0, 1) := by decide +kernel
theorem own_d7_147 : decode method_3_code 147 = .ok (.iconst 2, 1) := by decide +kernel
theorem own_d7_148 : decode method_3_code 148 = .ok (.if_icmp .ne 50, 3) := by decide +kernel
theorem own_d7_151 : decode method_3_code 151 = .ok (.bipush 8, 2) := by decide +kernel
theorem own_d7_153 : decode method_3_code 153 = .ok (.newarray .char, 2) := by decide +kernel
theorem own_d7_155 : decode method_3_code 155 = .ok (.dup, 1) := by decide +kernel
theorem own_d7_156 : decode method_3_code 156 = .ok (.iconst 0, 1) := by decide +kernel
theorem own_d7_157 : decode method_3_code 157 = .ok (.bipush 109, 2) := by decide +kernel
theorem own_d7_159 : decode method_3_code 159 = .ok (.castore, 1) := by decide +kernel
theorem own_d7_160 : decode method_3_code 160 = .ok (.dup, 1) := by decide +kernel
theorem own_d7_161 : decode method_3_code 161 = .ok (.iconst 1, 1) := by decide +kernel
theorem own_d7_162 : decode method_3_code 162 = .ok (.bipush 101, 2) := by decide +kernel
theorem own_d7_164 : decode method_3_code 164 = .ok (.castore, 1) := by decide +kernel
theorem own_d7_165 : decode method_3_code 165 = .ok (.dup, 1) := by decide +kernel
theorem own_d7_166 : decode method_3_code 166 = .ok (.iconst 2, 1) := by decide +kernel
theorem own_d7_167 : decode method_3_code 167 = .ok (.bipush 116, 2) := by decide +kernel
theorem own_d7_169 : decode method_3_code 169 = .ok (.castore, 1) := by decide +kernel
theorem own_d7_170 : decode method_3_code 170 = .ok (.dup, 1) := by decide +kernel
theorem own_d7_171 : decode method_3_code 171 = .ok (.iconst 3, 1) := by decide +kernel
theorem own_d7_172 : decode method_3_code 172 = .ok (.bipush 97, 2) := by decide +kernel
theorem own_d7_174 : decode method_3_code 174 = .ok (.castore, 1) := by decide +kernel
theorem own_d7_175 : decode method_3_code 175 = .ok (.dup, 1) := by decide +kernel
theorem own_d7_176 : decode method_3_code 176 = .ok (.iconst 4, 1) := by decide +kernel
theorem own_d7_177 : decode method_3_code 177 = .ok (.bipush 100, 2) := by decide +kernel
theorem own_d7_179 : decode method_3_code 179 = .ok (.castore, 1) := by decide +kernel
theorem own_d7_180 : decode method_3_code 180 = .ok (.dup, 1) := by decide +kernel
theorem own_d7_181 : decode method_3_code 181 = .ok (.iconst 5, 1) := by decide +kernel
theorem own_d7_182 : decode method_3_code 182 = .ok (.bipush 97, 2) := by decide +kernel
theorem own_d7_184 : decode method_3_code 184 = .ok (.castore, 1) := by decide +kernel
theorem own_d7_185 : decode method_3_code 185 = .ok (.dup, 1) := by decide +kernel
theorem own_d7_186 : decode method_3_code 186 = .ok (.bipush 6, 2) := by decide +kernel
theorem own_d7_188 : decode method_3_code 188 = .ok (.bipush 116, 2) := by decide +kernel
theorem own_d7_190 : decode method_3_code 190 = .ok (.castore, 1) := by decide +kernel
theorem own_d7_191 : decode method_3_code 191 = .ok (.dup, 1) := by decide +kernel
theorem own_d7_192 : decode method_3_code 192 = .ok (.bipush 7, 2) := by decide +kernel
theorem own_d7_194 : decode method_3_code 194 = .ok (.bipush 97, 2) := by decide +kernel
theorem own_d7_196 : decode method_3_code 196 = .ok (.castore, 1) := by decide +kernel
theorem own_d7_197 : decode method_3_code 197 = .ok (.areturn, 1) := by decide +kernel
theorem own_ef_own_nm2 (m : MethodId)  : entryFrame m #[(.int 2)] 1 = mkF m 0 #[iv 2] [] := by first | (simp [entryFrame, mkF, argsToLocals, Value.category]; done) | rfl
set_option maxRecDepth 65536 in
set_option maxHeartbeats 40000000 in
theorem own_nm2 (l : Launch) (Z : State) (a0 : Array Value) (H : own_Wld Z a0) {cw : List Jvm.Cond}  (h0 : Heap) (O0 : Ext Z.heap h0) :
    Own.Con l Z consts_1 (⟨"com/example/scholiast/scholiast/ModsReaderNeedsChildElementPinLaw", "nameChars", "(I)[C"⟩ : MethodName) method_3_code 1 (some (.array .char)) cw ({ frames := 0, cells := 1, slots := 8, locals := 0 } : Room) #[(.int 2)] h0 (fun v h => Keep h0 h [] ∧ ∃ x kc, v = some (.ref x) ∧ h0.size ≤ x ∧ Arv Z h x kc .char (8 : Int32) (own_M2.map Value.int) (.int 0)) := by
  have hw := H.1
  have hW := fun (i : Nat) (w : Jvm.Cond) (e : tables_1[i]? = some w) => hw w (List.mem_of_getElem? e)
  have hCm := H.2.1
  have hSi := H.2.2.1
  have hEL := H.2.2.2
  have hWs : ∀ d ∈ StrChars.Road.words, d.before a0 Z = true := fun d hd => hw d (own_wbackV d hd)
  have hWe : ∀ d ∈ StrChars.Road.wordsEq, d.before a0 Z = true := fun d hd => hw d (own_weqW d hd)
  have hSA : ∀ d ∈ Bundle.stringAtoms, d.before a0 Z = true := fun d hd => hw d (own_wSA d hd)
  refine Own.Con.of own_pn87ea0b hEL O0 ?_
  intro p e s m below meth c T0 G vm0 hx hby hml hret hnm hG hR S0
  have hz : ∀ L : Array Slot, L.size = 1 → L.size = c.maxLocals := fun L q => q.trans hml.symm
  rw [own_ef_own_nm2]
  show G T0 (mkF m 0 #[iv 2] [])
  refine hG.st (fun t q => XS.iloadN S0.here hx rfl (hb hby own_d7_0) rfl (XS.ifYes S0.here hx rfl (pc0 := 1) (pc' := 28) rfl (hb hby own_d7_1) rfl ((if0 _ _).trans (feq (by decide : ¬ ((2 : Int32) = (0 : Int32)))).2) (by decide) (by decide) (XS.iloadN S0.here hx rfl (hb hby own_d7_28) rfl (XS.iconst S0.here hx rfl (hb hby own_d7_29) (XS.icmpYes S0.here hx rfl (pc0 := 30) (pc' := 146) rfl (hb hby own_d7_30) rfl (feq (by decide : ¬ ((2 : Int32) = (1 : Int32)))).2 (by decide) (by decide) (XS.iloadN S0.here hx rfl (hb hby own_d7_146) rfl q)))))) ?_
  show G T0 (mkF m 147 #[iv 2] [(.int 2)])
  refine hG.st (fun t q => XS.iconst S0.here hx rfl (hb hby own_d7_147) (XS.icmpNo S0.here hx rfl (hb hby own_d7_148) rfl (teq (by decide : (2 : Int32) = (2 : Int32))).2 (XS.bipush S0.here hx rfl (hb hby own_d7_151) q))) ?_
  show G T0 (mkF m 153 #[iv 2] [(.int 8)])
  refine Own.Sit.newP hG S0 hx (aty := .char) (hW 4 _ rfl) rfl (hb hby own_d7_153) rfl (by decide) (cap := 8) (by decide) (by decide) (by decide) (by decide) (fun T412 h412 x412 k412 g_x412 S412 J412 Sf412 (V412 : Arv Z h412 x412 k412 .char (8 : Int32) [(.int 0), (.int 0), (.int 0), (.int 0), (.int 0), (.int 0), (.int 0), (.int 0)] (.int 0)) => ?_)
  have lt_x412 := V412.lt
  have ga_x412 : Z.heap.size ≤ x412 := Nat.le_trans S0.le (Nat.le_of_eq g_x412.symm)
  refine hG.st (fun t q => XS.dup S412.here hx rfl (hb hby own_d7_155) rfl rfl (XS.iconst S412.here hx rfl (hb hby own_d7_156) (XS.bipush S412.here hx rfl (hb hby own_d7_157) q))) ?_
  show G T412 (mkF m 159 #[iv 2] [(.int 109), (.int 0), (.ref x412), (.ref x412)])
  refine Own.Sit.stC hG S412 hx V412 ga_x412 ⟨by decide, by decide⟩ 0 rfl (Nat.le_of_ble_eq_true rfl) rfl rfl (hb hby own_d7_159) (fun T413 h413 S413 J413 (V413 : Arv Z h413 x412 k412 .char (8 : Int32) [(.int 109), (.int 0), (.int 0), (.int 0), (.int 0), (.int 0), (.int 0), (.int 0)] (.int 0)) => ?_)
  refine hG.st (fun t q => XS.dup S413.here hx rfl (hb hby own_d7_160) rfl rfl (XS.iconst S413.here hx rfl (hb hby own_d7_161) (XS.bipush S413.here hx rfl (hb hby own_d7_162) q))) ?_
  show G T413 (mkF m 164 #[iv 2] [(.int 101), (.int 1), (.ref x412), (.ref x412)])
  refine Own.Sit.stC hG S413 hx V413 ga_x412 ⟨by decide, by decide⟩ 1 rfl (Nat.le_of_ble_eq_true rfl) rfl rfl (hb hby own_d7_164) (fun T414 h414 S414 J414 (V414 : Arv Z h414 x412 k412 .char (8 : Int32) [(.int 109), (.int 101), (.int 0), (.int 0), (.int 0), (.int 0), (.int 0), (.int 0)] (.int 0)) => ?_)
  refine hG.st (fun t q => XS.dup S414.here hx rfl (hb hby own_d7_165) rfl rfl (XS.iconst S414.here hx rfl (hb hby own_d7_166) (XS.bipush S414.here hx rfl (hb hby own_d7_167) q))) ?_
  show G T414 (mkF m 169 #[iv 2] [(.int 116), (.int 2), (.ref x412), (.ref x412)])
  refine Own.Sit.stC hG S414 hx V414 ga_x412 ⟨by decide, by decide⟩ 2 rfl (Nat.le_of_ble_eq_true rfl) rfl rfl (hb hby own_d7_169) (fun T415 h415 S415 J415 (V415 : Arv Z h415 x412 k412 .char (8 : Int32) [(.int 109), (.int 101), (.int 116), (.int 0), (.int 0), (.int 0), (.int 0), (.int 0)] (.int 0)) => ?_)
  refine hG.st (fun t q => XS.dup S415.here hx rfl (hb hby own_d7_170) rfl rfl (XS.iconst S415.here hx rfl (hb hby own_d7_171) (XS.bipush S415.here hx rfl (hb hby own_d7_172) q))) ?_
  show G T415 (mkF m 174 #[iv 2] [(.int 97), (.int 3), (.ref x412), (.ref x412)])
  refine Own.Sit.stC hG S415 hx V415 ga_x412 ⟨by decide, by decide⟩ 3 rfl (Nat.le_of_ble_eq_true rfl) rfl rfl (hb hby own_d7_174) (fun T416 h416 S416 J416 (V416 : Arv Z h416 x412 k412 .char (8 : Int32) [(.int 109), (.int 101), (.int 116), (.int 97), (.int 0), (.int 0), (.int 0), (.int 0)] (.int 0)) => ?_)
  refine hG.st (fun t q => XS.dup S416.here hx rfl (hb hby own_d7_175) rfl rfl (XS.iconst S416.here hx rfl (hb hby own_d7_176) (XS.bipush S416.here hx rfl (hb hby own_d7_177) q))) ?_
  show G T416 (mkF m 179 #[iv 2] [(.int 100), (.int 4), (.ref x412), (.ref x412)])
  refine Own.Sit.stC hG S416 hx V416 ga_x412 ⟨by decide, by decide⟩ 4 rfl (Nat.le_of_ble_eq_true rfl) rfl rfl (hb hby own_d7_179) (fun T417 h417 S417 J417 (V417 : Arv Z h417 x412 k412 .char (8 : Int32) [(.int 109), (.int 101), (.int 116), (.int 97), (.int 100), (.int 0), (.int 0), (.int 0)] (.int 0)) => ?_)
  refine hG.st (fun t q => XS.dup S417.here hx rfl (hb hby own_d7_180) rfl rfl (XS.iconst S417.here hx rfl (hb hby own_d7_181) (XS.bipush S417.here hx rfl (hb hby own_d7_182) q))) ?_
  show G T417 (mkF m 184 #[iv 2] [(.int 97), (.int 5), (.ref x412), (.ref x412)])
  refine Own.Sit.stC hG S417 hx V417 ga_x412 ⟨by decide, by decide⟩ 5 rfl (Nat.le_of_ble_eq_true rfl) rfl rfl (hb hby own_d7_184) (fun T418 h418 S418 J418 (V418 : Arv Z h418 x412 k412 .char (8 : Int32) [(.int 109), (.int 101), (.int 116), (.int 97), (.int 100), (.int 97), (.int 0), (.int 0)] (.int 0)) => ?_)
  refine hG.st (fun t q => XS.dup S418.here hx rfl (hb hby own_d7_185) rfl rfl (XS.bipush S418.here hx rfl (hb hby own_d7_186) (XS.bipush S418.here hx rfl (hb hby own_d7_188) q))) ?_
  show G T418 (mkF m 190 #[iv 2] [(.int 116), (.int 6), (.ref x412), (.ref x412)])
  refine Own.Sit.stC hG S418 hx V418 ga_x412 ⟨by decide, by decide⟩ 6 rfl (Nat.le_of_ble_eq_true rfl) rfl rfl (hb hby own_d7_190) (fun T419 h419 S419 J419 (V419 : Arv Z h419 x412 k412 .char (8 : Int32) [(.int 109), (.int 101), (.int 116), (.int 97), (.int 100), (.int 97), (.int 116), (.int 0)] (.int 0)) => ?_)
  refine hG.st (fun t q => XS.dup S419.here hx rfl (hb hby own_d7_191) rfl rfl (XS.bipush S419.here hx rfl (hb hby own_d7_192) (XS.bipush S419.here hx rfl (hb hby own_d7_194) q))) ?_
  show G T419 (mkF m 196 #[iv 2] [(.int 97), (.int 7), (.ref x412), (.ref x412)])
  refine Own.Sit.stC hG S419 hx V419 ga_x412 ⟨by decide, by decide⟩ 7 rfl (Nat.le_of_ble_eq_true rfl) rfl rfl (hb hby own_d7_196) (fun T420 h420 S420 J420 (V420 : Arv Z h420 x412 k412 .char (8 : Int32) [(.int 109), (.int 101), (.int 116), (.int 97), (.int 100), (.int 97), (.int 116), (.int 97)] (.int 0)) => ?_)
  have J421 : Own.Stp Z consts_1 vm0 h0 vm0 h413 [] := Own.Stp.trans J412 J413 (all0) (allS (Or.inr (Nat.le_of_eq g_x412.symm)) all0)
  have J422 : Own.Stp Z consts_1 vm0 h0 vm0 h414 [] := Own.Stp.trans J421 J414 (all0) (allS (Or.inr (Nat.le_of_eq g_x412.symm)) all0)
  have J423 : Own.Stp Z consts_1 vm0 h0 vm0 h415 [] := Own.Stp.trans J422 J415 (all0) (allS (Or.inr (Nat.le_of_eq g_x412.symm)) all0)
  have J424 : Own.Stp Z consts_1 vm0 h0 vm0 h416 [] := Own.Stp.trans J423 J416 (all0) (allS (Or.inr (Nat.le_of_eq g_x412.symm)) all0)
  have J425 : Own.Stp Z consts_1 vm0 h0 vm0 h417 [] := Own.Stp.trans J424 J417 (all0) (allS (Or.inr (Nat.le_of_eq g_x412.symm)) all0)
  have J426 : Own.Stp Z consts_1 vm0 h0 vm0 h418 [] := Own.Stp.trans J425 J418 (all0) (allS (Or.inr (Nat.le_of_eq g_x412.symm)) all0)
  have J427 : Own.Stp Z consts_1 vm0 h0 vm0 h419 [] := Own.Stp.trans J426 J419 (all0) (allS (Or.inr (Nat.le_of_eq g_x412.symm)) all0)
  have J428 : Own.Stp Z consts_1 vm0 h0 vm0 h420 [] := Own.Stp.trans J427 J420 (all0) (allS (Or.inr (Nat.le_of_eq g_x412.symm)) all0)
  show G T420 (mkF m 197 #[iv 2] [(.ref x412)])
  exact Own.Sit.retO hR S420 hx hret rfl (Or.inr (Or.inr (Or.inr (Or.inr ⟨rfl, rfl, rfl⟩)))) (hb hby own_d7_197) (by decide) (by decide) ⟨J428.1, x412, _, rfl, (Nat.le_of_eq g_x412.symm), V420⟩
theorem own_d7_198 : decode method_3_code 198 = .ok (.iload_n 0, 1) := by decide +kernel
theorem own_d7_199 : decode method_3_code 199 = .ok (.iconst 3, 1) := by decide +kernel
theorem own_d7_200 : decode method_3_code 200 = .ok (.if_icmp .ne 32, 3) := by decide +kernel
theorem own_d7_203 : decode method_3_code 203 = .ok (.iconst 5, 1) := by decide +kernel
theorem own_d7_204 : decode method_3_code 204 = .ok (.newarray .char, 2) := by decide +kernel
theorem own_d7_206 : decode method_3_code 206 = .ok (.dup, 1) := by decide +kernel
theorem own_d7_207 : decode method_3_code 207 = .ok (.iconst 0, 1) := by decide +kernel
theorem own_d7_208 : decode method_3_code 208 = .ok (.bipush 97, 2) := by decide +kernel
theorem own_d7_210 : decode method_3_code 210 = .ok (.castore, 1) := by decide +kernel
theorem own_d7_211 : decode method_3_code 211 = .ok (.dup, 1) := by decide +kernel
theorem own_d7_212 : decode method_3_code 212 = .ok (.iconst 1, 1) := by decide +kernel
theorem own_d7_213 : decode method_3_code 213 = .ok (.bipush 98, 2) := by decide +kernel
theorem own_d7_215 : decode method_3_code 215 = .ok (.castore, 1) := by decide +kernel
theorem own_d7_216 : decode method_3_code 216 = .ok (.dup, 1) := by decide +kernel
theorem own_d7_217 : decode method_3_code 217 = .ok (.iconst 2, 1) := by decide +kernel
theorem own_d7_218 : decode method_3_code 218 = .ok (.bipush 111, 2) := by decide +kernel
theorem own_d7_220 : decode method_3_code 220 = .ok (.castore, 1) := by decide +kernel
theorem own_d7_221 : decode method_3_code 221 = .ok (.dup, 1) := by decide +kernel
theorem own_d7_222 : decode method_3_code 222 = .ok (.iconst 3, 1) := by decide +kernel
theorem own_d7_223 : decode method_3_code 223 = .ok (.bipush 117, 2) := by decide +kernel
theorem own_d7_225 : decode method_3_code 225 = .ok (.castore, 1) := by decide +kernel
theorem own_d7_226 : decode method_3_code 226 = .ok (.dup, 1) := by decide +kernel
theorem own_d7_227 : decode method_3_code 227 = .ok (.iconst 4, 1) := by decide +kernel
theorem own_d7_228 : decode method_3_code 228 = .ok (.bipush 116, 2) := by decide +kernel
theorem own_d7_230 : decode method_3_code 230 = .ok (.castore, 1) := by decide +kernel
theorem own_d7_231 : decode method_3_code 231 = .ok (.areturn, 1) := by decide +kernel
theorem own_ef_own_nm3 (m : MethodId)  : entryFrame m #[(.int 3)] 1 = mkF m 0 #[iv 3] [] := by first | (simp [entryFrame, mkF, argsToLocals, Value.category]; done) | rfl
set_option maxRecDepth 65536 in
set_option maxHeartbeats 40000000 in
theorem own_nm3 (l : Launch) (Z : State) (a0 : Array Value) (H : own_Wld Z a0) {cw : List Jvm.Cond}  (h0 : Heap) (O0 : Ext Z.heap h0) :
    Own.Con l Z consts_1 (⟨"com/example/scholiast/scholiast/ModsReaderNeedsChildElementPinLaw", "nameChars", "(I)[C"⟩ : MethodName) method_3_code 1 (some (.array .char)) cw ({ frames := 0, cells := 1, slots := 5, locals := 0 } : Room) #[(.int 3)] h0 (fun v h => Keep h0 h [] ∧ ∃ x kc, v = some (.ref x) ∧ h0.size ≤ x ∧ Arv Z h x kc .char (5 : Int32) (own_M3.map Value.int) (.int 0)) := by
  have hw := H.1
  have hW := fun (i : Nat) (w : Jvm.Cond) (e : tables_1[i]? = some w) => hw w (List.mem_of_getElem? e)
  have hCm := H.2.1
  have hSi := H.2.2.1
  have hEL := H.2.2.2
  have hWs : ∀ d ∈ StrChars.Road.words, d.before a0 Z = true := fun d hd => hw d (own_wbackV d hd)
  have hWe : ∀ d ∈ StrChars.Road.wordsEq, d.before a0 Z = true := fun d hd => hw d (own_weqW d hd)
  have hSA : ∀ d ∈ Bundle.stringAtoms, d.before a0 Z = true := fun d hd => hw d (own_wSA d hd)
  refine Own.Con.of own_pn87ea0b hEL O0 ?_
  intro p e s m below meth c T0 G vm0 hx hby hml hret hnm hG hR S0
  have hz : ∀ L : Array Slot, L.size = 1 → L.size = c.maxLocals := fun L q => q.trans hml.symm
  rw [own_ef_own_nm3]
  show G T0 (mkF m 0 #[iv 3] [])
  refine hG.st (fun t q => XS.iloadN S0.here hx rfl (hb hby own_d7_0) rfl (XS.ifYes S0.here hx rfl (pc0 := 1) (pc' := 28) rfl (hb hby own_d7_1) rfl ((if0 _ _).trans (feq (by decide : ¬ ((3 : Int32) = (0 : Int32)))).2) (by decide) (by decide) (XS.iloadN S0.here hx rfl (hb hby own_d7_28) rfl (XS.iconst S0.here hx rfl (hb hby own_d7_29) (XS.icmpYes S0.here hx rfl (pc0 := 30) (pc' := 146) rfl (hb hby own_d7_30) rfl (feq (by decide : ¬ ((3 : Int32) = (1 : Int32)))).2 (by decide) (by decide) (XS.iloadN S0.here hx rfl (hb hby own_d7_146) rfl q)))))) ?_
  show G T0 (mkF m 147 #[iv 3] [(.int 3)])
  refine hG.st (fun t q => XS.iconst S0.here hx rfl (hb hby own_d7_147) (XS.icmpYes S0.here hx rfl (pc0 := 148) (pc' := 198) rfl (hb hby own_d7_148) rfl (feq (by decide : ¬ ((3 : Int32) = (2 : Int32)))).2 (by decide) (by decide) (XS.iloadN S0.here hx rfl (hb hby own_d7_198) rfl (XS.iconst S0.here hx rfl (hb hby own_d7_199) (XS.icmpNo S0.here hx rfl (hb hby own_d7_200) rfl (teq (by decide : (3 : Int32) = (3 : Int32))).2 (XS.iconst S0.here hx rfl (hb hby own_d7_203) q)))))) ?_
  show G T0 (mkF m 204 #[iv 3] [(.int 5)])
  refine Own.Sit.newP hG S0 hx (aty := .char) (hW 4 _ rfl) rfl (hb hby own_d7_204) rfl (by decide) (cap := 5) (by decide) (by decide) (by decide) (by decide) (fun T429 h429 x429 k429 g_x429 S429 J429 Sf429 (V429 : Arv Z h429 x429 k429 .char (5 : Int32) [(.int 0), (.int 0), (.int 0), (.int 0), (.int 0)] (.int 0)) => ?_)
  have lt_x429 := V429.lt
  have ga_x429 : Z.heap.size ≤ x429 := Nat.le_trans S0.le (Nat.le_of_eq g_x429.symm)
  refine hG.st (fun t q => XS.dup S429.here hx rfl (hb hby own_d7_206) rfl rfl (XS.iconst S429.here hx rfl (hb hby own_d7_207) (XS.bipush S429.here hx rfl (hb hby own_d7_208) q))) ?_
  show G T429 (mkF m 210 #[iv 3] [(.int 97), (.int 0), (.ref x429), (.ref x429)])
  refine Own.Sit.stC hG S429 hx V429 ga_x429 ⟨by decide, by decide⟩ 0 rfl (Nat.le_of_ble_eq_true rfl) rfl rfl (hb hby own_d7_210) (fun T430 h430 S430 J430 (V430 : Arv Z h430 x429 k429 .char (5 : Int32) [(.int 97), (.int 0), (.int 0), (.int 0), (.int 0)] (.int 0)) => ?_)
  refine hG.st (fun t q => XS.dup S430.here hx rfl (hb hby own_d7_211) rfl rfl (XS.iconst S430.here hx rfl (hb hby own_d7_212) (XS.bipush S430.here hx rfl (hb hby own_d7_213) q))) ?_
  show G T430 (mkF m 215 #[iv 3] [(.int 98), (.int 1), (.ref x429), (.ref x429)])
  refine Own.Sit.stC hG S430 hx V430 ga_x429 ⟨by decide, by decide⟩ 1 rfl (Nat.le_of_ble_eq_true rfl) rfl rfl (hb hby own_d7_215) (fun T431 h431 S431 J431 (V431 : Arv Z h431 x429 k429 .char (5 : Int32) [(.int 97), (.int 98), (.int 0), (.int 0), (.int 0)] (.int 0)) => ?_)
  refine hG.st (fun t q => XS.dup S431.here hx rfl (hb hby own_d7_216) rfl rfl (XS.iconst S431.here hx rfl (hb hby own_d7_217) (XS.bipush S431.here hx rfl (hb hby own_d7_218) q))) ?_
  show G T431 (mkF m 220 #[iv 3] [(.int 111), (.int 2), (.ref x429), (.ref x429)])
  refine Own.Sit.stC hG S431 hx V431 ga_x429 ⟨by decide, by decide⟩ 2 rfl (Nat.le_of_ble_eq_true rfl) rfl rfl (hb hby own_d7_220) (fun T432 h432 S432 J432 (V432 : Arv Z h432 x429 k429 .char (5 : Int32) [(.int 97), (.int 98), (.int 111), (.int 0), (.int 0)] (.int 0)) => ?_)
  refine hG.st (fun t q => XS.dup S432.here hx rfl (hb hby own_d7_221) rfl rfl (XS.iconst S432.here hx rfl (hb hby own_d7_222) (XS.bipush S432.here hx rfl (hb hby own_d7_223) q))) ?_
  show G T432 (mkF m 225 #[iv 3] [(.int 117), (.int 3), (.ref x429), (.ref x429)])
  refine Own.Sit.stC hG S432 hx V432 ga_x429 ⟨by decide, by decide⟩ 3 rfl (Nat.le_of_ble_eq_true rfl) rfl rfl (hb hby own_d7_225) (fun T433 h433 S433 J433 (V433 : Arv Z h433 x429 k429 .char (5 : Int32) [(.int 97), (.int 98), (.int 111), (.int 117), (.int 0)] (.int 0)) => ?_)
  refine hG.st (fun t q => XS.dup S433.here hx rfl (hb hby own_d7_226) rfl rfl (XS.iconst S433.here hx rfl (hb hby own_d7_227) (XS.bipush S433.here hx rfl (hb hby own_d7_228) q))) ?_
  show G T433 (mkF m 230 #[iv 3] [(.int 116), (.int 4), (.ref x429), (.ref x429)])
  refine Own.Sit.stC hG S433 hx V433 ga_x429 ⟨by decide, by decide⟩ 4 rfl (Nat.le_of_ble_eq_true rfl) rfl rfl (hb hby own_d7_230) (fun T434 h434 S434 J434 (V434 : Arv Z h434 x429 k429 .char (5 : Int32) [(.int 97), (.int 98), (.int 111), (.int 117), (.int 116)] (.int 0)) => ?_)
  have J435 : Own.Stp Z consts_1 vm0 h0 vm0 h430 [] := Own.Stp.trans J429 J430 (all0) (allS (Or.inr (Nat.le_of_eq g_x429.symm)) all0)
  have J436 : Own.Stp Z consts_1 vm0 h0 vm0 h431 [] := Own.Stp.trans J435 J431 (all0) (allS (Or.inr (Nat.le_of_eq g_x429.symm)) all0)
  have J437 : Own.Stp Z consts_1 vm0 h0 vm0 h432 [] := Own.Stp.trans J436 J432 (all0) (allS (Or.inr (Nat.le_of_eq g_x429.symm)) all0)
  have J438 : Own.Stp Z consts_1 vm0 h0 vm0 h433 [] := Own.Stp.trans J437 J433 (all0) (allS (Or.inr (Nat.le_of_eq g_x429.symm)) all0)
  have J439 : Own.Stp Z consts_1 vm0 h0 vm0 h434 [] := Own.Stp.trans J438 J434 (all0) (allS (Or.inr (Nat.le_of_eq g_x429.symm)) all0)
  show G T434 (mkF m 231 #[iv 3] [(.ref x429)])
  exact Own.Sit.retO hR S434 hx hret rfl (Or.inr (Or.inr (Or.inr (Or.inr ⟨rfl, rfl, rfl⟩)))) (hb hby own_d7_231) (by decide) (by decide) ⟨J439.1, x429, _, rfl, (Nat.le_of_eq g_x429.symm), V434⟩
theorem own_d7_232 : decode method_3_code 232 = .ok (.iload_n 0, 1) := by decide +kernel
theorem own_d7_233 : decode method_3_code 233 = .ok (.iconst 4, 1) := by decide +kernel
theorem own_d7_234 : decode method_3_code 234 = .ok (.if_icmp .ne 27, 3) := by decide +kernel
theorem own_d7_237 : decode method_3_code 237 = .ok (.iconst 4, 1) := by decide +kernel
theorem own_d7_238 : decode method_3_code 238 = .ok (.newarray .char, 2) := by decide +kernel
theorem own_d7_240 : decode method_3_code 240 = .ok (.dup, 1) := by decide +kernel
theorem own_d7_241 : decode method_3_code 241 = .ok (.iconst 0, 1) := by decide +kernel
theorem own_d7_242 : decode method_3_code 242 = .ok (.bipush 110, 2) := by decide +kernel
theorem own_d7_244 : decode method_3_code 244 = .ok (.castore, 1) := by decide +kernel
theorem own_d7_245 : decode method_3_code 245 = .ok (.dup, 1) := by decide +kernel
theorem own_d7_246 : decode method_3_code 246 = .ok (.iconst 1, 1) := by decide +kernel
theorem own_d7_247 : decode method_3_code 247 = .ok (.bipush 111, 2) := by decide +kernel
theorem own_d7_249 : decode method_3_code 249 = .ok (.castore, 1) := by decide +kernel
theorem own_d7_250 : decode method_3_code 250 = .ok (.dup, 1) := by decide +kernel
theorem own_d7_251 : decode method_3_code 251 = .ok (.iconst 2, 1) := by decide +kernel
theorem own_d7_252 : decode method_3_code 252 = .ok (.bipush 116, 2) := by decide +kernel
theorem own_d7_254 : decode method_3_code 254 = .ok (.castore, 1) := by decide +kernel
theorem own_d7_255 : decode method_3_code 255 = .ok (.dup, 1) := by decide +kernel
theorem own_d7_256 : decode method_3_code 256 = .ok (.iconst 3, 1) := by decide +kernel
theorem own_d7_257 : decode method_3_code 257 = .ok (.bipush 101, 2) := by decide +kernel
theorem own_d7_259 : decode method_3_code 259 = .ok (.castore, 1) := by decide +kernel
theorem own_d7_260 : decode method_3_code 260 = .ok (.areturn, 1) := by decide +kernel
theorem own_ef_own_nm4 (m : MethodId)  : entryFrame m #[(.int 4)] 1 = mkF m 0 #[iv 4] [] := by first | (simp [entryFrame, mkF, argsToLocals, Value.category]; done) | rfl
set_option maxRecDepth 65536 in
set_option maxHeartbeats 40000000 in
theorem own_nm4 (l : Launch) (Z : State) (a0 : Array Value) (H : own_Wld Z a0) {cw : List Jvm.Cond}  (h0 : Heap) (O0 : Ext Z.heap h0) :
    Own.Con l Z consts_1 (⟨"com/example/scholiast/scholiast/ModsReaderNeedsChildElementPinLaw", "nameChars", "(I)[C"⟩ : MethodName) method_3_code 1 (some (.array .char)) cw ({ frames := 0, cells := 1, slots := 4, locals := 0 } : Room) #[(.int 4)] h0 (fun v h => Keep h0 h [] ∧ ∃ x kc, v = some (.ref x) ∧ h0.size ≤ x ∧ Arv Z h x kc .char (4 : Int32) (own_M4.map Value.int) (.int 0)) := by
  have hw := H.1
  have hW := fun (i : Nat) (w : Jvm.Cond) (e : tables_1[i]? = some w) => hw w (List.mem_of_getElem? e)
  have hCm := H.2.1
  have hSi := H.2.2.1
  have hEL := H.2.2.2
  have hWs : ∀ d ∈ StrChars.Road.words, d.before a0 Z = true := fun d hd => hw d (own_wbackV d hd)
  have hWe : ∀ d ∈ StrChars.Road.wordsEq, d.before a0 Z = true := fun d hd => hw d (own_weqW d hd)
  have hSA : ∀ d ∈ Bundle.stringAtoms, d.before a0 Z = true := fun d hd => hw d (own_wSA d hd)
  refine Own.Con.of own_pn87ea0b hEL O0 ?_
  intro p e s m below meth c T0 G vm0 hx hby hml hret hnm hG hR S0
  have hz : ∀ L : Array Slot, L.size = 1 → L.size = c.maxLocals := fun L q => q.trans hml.symm
  rw [own_ef_own_nm4]
  show G T0 (mkF m 0 #[iv 4] [])
  refine hG.st (fun t q => XS.iloadN S0.here hx rfl (hb hby own_d7_0) rfl (XS.ifYes S0.here hx rfl (pc0 := 1) (pc' := 28) rfl (hb hby own_d7_1) rfl ((if0 _ _).trans (feq (by decide : ¬ ((4 : Int32) = (0 : Int32)))).2) (by decide) (by decide) (XS.iloadN S0.here hx rfl (hb hby own_d7_28) rfl (XS.iconst S0.here hx rfl (hb hby own_d7_29) (XS.icmpYes S0.here hx rfl (pc0 := 30) (pc' := 146) rfl (hb hby own_d7_30) rfl (feq (by decide : ¬ ((4 : Int32) = (1 : Int32)))).2 (by decide) (by decide) (XS.iloadN S0.here hx rfl (hb hby own_d7_146) rfl q)))))) ?_
  show G T0 (mkF m 147 #[iv 4] [(.int 4)])
  refine hG.st (fun t q => XS.iconst S0.here hx rfl (hb hby own_d7_147) (XS.icmpYes S0.here hx rfl (pc0 := 148) (pc' := 198) rfl (hb hby own_d7_148) rfl (feq (by decide : ¬ ((4 : Int32) = (2 : Int32)))).2 (by decide) (by decide) (XS.iloadN S0.here hx rfl (hb hby own_d7_198) rfl (XS.iconst S0.here hx rfl (hb hby own_d7_199) (XS.icmpYes S0.here hx rfl (pc0 := 200) (pc' := 232) rfl (hb hby own_d7_200) rfl (feq (by decide : ¬ ((4 : Int32) = (3 : Int32)))).2 (by decide) (by decide) (XS.iloadN S0.here hx rfl (hb hby own_d7_232) rfl q)))))) ?_
  show G T0 (mkF m 233 #[iv 4] [(.int 4)])
  refine hG.st (fun t q => XS.iconst S0.here hx rfl (hb hby own_d7_233) (XS.icmpNo S0.here hx rfl (hb hby own_d7_234) rfl (teq (by decide : (4 : Int32) = (4 : Int32))).2 (XS.iconst S0.here hx rfl (hb hby own_d7_237) q))) ?_
  show G T0 (mkF m 238 #[iv 4] [(.int 4)])
  refine Own.Sit.newP hG S0 hx (aty := .char) (hW 4 _ rfl) rfl (hb hby own_d7_238) rfl (by decide) (cap := 4) (by decide) (by decide) (by decide) (by decide) (fun T440 h440 x440 k440 g_x440 S440 J440 Sf440 (V440 : Arv Z h440 x440 k440 .char (4 : Int32) [(.int 0), (.int 0), (.int 0), (.int 0)] (.int 0)) => ?_)
  have lt_x440 := V440.lt
  have ga_x440 : Z.heap.size ≤ x440 := Nat.le_trans S0.le (Nat.le_of_eq g_x440.symm)
  refine hG.st (fun t q => XS.dup S440.here hx rfl (hb hby own_d7_240) rfl rfl (XS.iconst S440.here hx rfl (hb hby own_d7_241) (XS.bipush S440.here hx rfl (hb hby own_d7_242) q))) ?_
  show G T440 (mkF m 244 #[iv 4] [(.int 110), (.int 0), (.ref x440), (.ref x440)])
  refine Own.Sit.stC hG S440 hx V440 ga_x440 ⟨by decide, by decide⟩ 0 rfl (Nat.le_of_ble_eq_true rfl) rfl rfl (hb hby own_d7_244) (fun T441 h441 S441 J441 (V441 : Arv Z h441 x440 k440 .char (4 : Int32) [(.int 110), (.int 0), (.int 0), (.int 0)] (.int 0)) => ?_)
  refine hG.st (fun t q => XS.dup S441.here hx rfl (hb hby own_d7_245) rfl rfl (XS.iconst S441.here hx rfl (hb hby own_d7_246) (XS.bipush S441.here hx rfl (hb hby own_d7_247) q))) ?_
  show G T441 (mkF m 249 #[iv 4] [(.int 111), (.int 1), (.ref x440), (.ref x440)])
  refine Own.Sit.stC hG S441 hx V441 ga_x440 ⟨by decide, by decide⟩ 1 rfl (Nat.le_of_ble_eq_true rfl) rfl rfl (hb hby own_d7_249) (fun T442 h442 S442 J442 (V442 : Arv Z h442 x440 k440 .char (4 : Int32) [(.int 110), (.int 111), (.int 0), (.int 0)] (.int 0)) => ?_)
  refine hG.st (fun t q => XS.dup S442.here hx rfl (hb hby own_d7_250) rfl rfl (XS.iconst S442.here hx rfl (hb hby own_d7_251) (XS.bipush S442.here hx rfl (hb hby own_d7_252) q))) ?_
  show G T442 (mkF m 254 #[iv 4] [(.int 116), (.int 2), (.ref x440), (.ref x440)])
  refine Own.Sit.stC hG S442 hx V442 ga_x440 ⟨by decide, by decide⟩ 2 rfl (Nat.le_of_ble_eq_true rfl) rfl rfl (hb hby own_d7_254) (fun T443 h443 S443 J443 (V443 : Arv Z h443 x440 k440 .char (4 : Int32) [(.int 110), (.int 111), (.int 116), (.int 0)] (.int 0)) => ?_)
  refine hG.st (fun t q => XS.dup S443.here hx rfl (hb hby own_d7_255) rfl rfl (XS.iconst S443.here hx rfl (hb hby own_d7_256) (XS.bipush S443.here hx rfl (hb hby own_d7_257) q))) ?_
  show G T443 (mkF m 259 #[iv 4] [(.int 101), (.int 3), (.ref x440), (.ref x440)])
  refine Own.Sit.stC hG S443 hx V443 ga_x440 ⟨by decide, by decide⟩ 3 rfl (Nat.le_of_ble_eq_true rfl) rfl rfl (hb hby own_d7_259) (fun T444 h444 S444 J444 (V444 : Arv Z h444 x440 k440 .char (4 : Int32) [(.int 110), (.int 111), (.int 116), (.int 101)] (.int 0)) => ?_)
  have J445 : Own.Stp Z consts_1 vm0 h0 vm0 h441 [] := Own.Stp.trans J440 J441 (all0) (allS (Or.inr (Nat.le_of_eq g_x440.symm)) all0)
  have J446 : Own.Stp Z consts_1 vm0 h0 vm0 h442 [] := Own.Stp.trans J445 J442 (all0) (allS (Or.inr (Nat.le_of_eq g_x440.symm)) all0)
  have J447 : Own.Stp Z consts_1 vm0 h0 vm0 h443 [] := Own.Stp.trans J446 J443 (all0) (allS (Or.inr (Nat.le_of_eq g_x440.symm)) all0)
  have J448 : Own.Stp Z consts_1 vm0 h0 vm0 h444 [] := Own.Stp.trans J447 J444 (all0) (allS (Or.inr (Nat.le_of_eq g_x440.symm)) all0)
  show G T444 (mkF m 260 #[iv 4] [(.ref x440)])
  exact Own.Sit.retO hR S444 hx hret rfl (Or.inr (Or.inr (Or.inr (Or.inr ⟨rfl, rfl, rfl⟩)))) (hb hby own_d7_260) (by decide) (by decide) ⟨J448.1, x440, _, rfl, (Nat.le_of_eq g_x440.symm), V444⟩
theorem own_d7_261 : decode method_3_code 261 = .ok (.iload_n 0, 1) := by decide +kernel
theorem own_d7_262 : decode method_3_code 262 = .ok (.iconst 5, 1) := by decide +kernel
theorem own_d7_263 : decode method_3_code 263 = .ok (.if_icmp .ne 68, 3) := by decide +kernel
theorem own_d7_266 : decode method_3_code 266 = .ok (.bipush 11, 2) := by decide +kernel
theorem own_d7_268 : decode method_3_code 268 = .ok (.newarray .char, 2) := by decide +kernel
theorem own_d7_270 : decode method_3_code 270 = .ok (.dup, 1) := by decide +kernel
theorem own_d7_271 : decode method_3_code 271 = .ok (.iconst 0, 1) := by decide +kernel
theorem own_d7_272 : decode method_3_code 272 = .ok (.bipush 114, 2) := by decide +kernel
theorem own_d7_274 : decode method_3_code 274 = .ok (.castore, 1) := by decide +kernel
theorem own_d7_275 : decode method_3_code 275 = .ok (.dup, 1) := by decide +kernel
theorem own_d7_276 : decode method_3_code 276 = .ok (.iconst 1, 1) := by decide +kernel
theorem own_d7_277 : decode method_3_code 277 = .ok (.bipush 101, 2) := by decide +kernel
theorem own_d7_279 : decode method_3_code 279 = .ok (.castore, 1) := by decide +kernel
theorem own_d7_280 : decode method_3_code 280 = .ok (.dup, 1) := by decide +kernel
theorem own_d7_281 : decode method_3_code 281 = .ok (.iconst 2, 1) := by decide +kernel
theorem own_d7_282 : decode method_3_code 282 = .ok (.bipush 108, 2) := by decide +kernel
theorem own_d7_284 : decode method_3_code 284 = .ok (.castore, 1) := by decide +kernel
theorem own_d7_285 : decode method_3_code 285 = .ok (.dup, 1) := by decide +kernel
theorem own_d7_286 : decode method_3_code 286 = .ok (.iconst 3, 1) := by decide +kernel
theorem own_d7_287 : decode method_3_code 287 = .ok (.bipush 97, 2) := by decide +kernel
theorem own_d7_289 : decode method_3_code 289 = .ok (.castore, 1) := by decide +kernel
theorem own_d7_290 : decode method_3_code 290 = .ok (.dup, 1) := by decide +kernel
theorem own_d7_291 : decode method_3_code 291 = .ok (.iconst 4, 1) := by decide +kernel
theorem own_d7_292 : decode method_3_code 292 = .ok (.bipush 116, 2) := by decide +kernel
theorem own_d7_294 : decode method_3_code 294 = .ok (.castore, 1) := by decide +kernel
theorem own_d7_295 : decode method_3_code 295 = .ok (.dup, 1) := by decide +kernel
theorem own_d7_296 : decode method_3_code 296 = .ok (.iconst 5, 1) := by decide +kernel
theorem own_d7_297 : decode method_3_code 297 = .ok (.bipush 101, 2) := by decide +kernel
theorem own_d7_299 : decode method_3_code 299 = .ok (.castore, 1) := by decide +kernel
theorem own_d7_300 : decode method_3_code 300 = .ok (.dup, 1) := by decide +kernel
theorem own_d7_301 : decode method_3_code 301 = .ok (.bipush 6, 2) := by decide +kernel
theorem own_d7_303 : decode method_3_code 303 = .ok (.bipush 100, 2) := by decide +kernel
theorem own_d7_305 : decode method_3_code 305 = .ok (.castore, 1) := by decide +kernel
theorem own_d7_306 : decode method_3_code 306 = .ok (.dup, 1) := by decide +kernel
theorem own_d7_307 : decode method_3_code 307 = .ok (.bipush 7, 2) := by decide +kernel
theorem own_d7_309 : decode method_3_code 309 = .ok (.bipush 73, 2) := by decide +kernel
theorem own_d7_311 : decode method_3_code 311 = .ok (.castore, 1) := by decide +kernel
theorem own_d7_312 : decode method_3_code 312 = .ok (.dup, 1) := by decide +kernel
theorem own_d7_313 : decode method_3_code 313 = .ok (.bipush 8, 2) := by decide +kernel
theorem own_d7_315 : decode method_3_code 315 = .ok (.bipush 116, 2) := by decide +kernel
theorem own_d7_317 : decode method_3_code 317 = .ok (.castore, 1) := by decide +kernel
theorem own_d7_318 : decode method_3_code 318 = .ok (.dup, 1) := by decide +kernel
theorem own_d7_319 : decode method_3_code 319 = .ok (.bipush 9, 2) := by decide +kernel
theorem own_d7_321 : decode method_3_code 321 = .ok (.bipush 101, 2) := by decide +kernel
theorem own_d7_323 : decode method_3_code 323 = .ok (.castore, 1) := by decide +kernel
theorem own_d7_324 : decode method_3_code 324 = .ok (.dup, 1) := by decide +kernel
theorem own_d7_325 : decode method_3_code 325 = .ok (.bipush 10, 2) := by decide +kernel
theorem own_d7_327 : decode method_3_code 327 = .ok (.bipush 109, 2) := by decide +kernel
theorem own_d7_329 : decode method_3_code 329 = .ok (.castore, 1) := by decide +kernel
theorem own_d7_330 : decode method_3_code 330 = .ok (.areturn, 1) := by decide +kernel
theorem own_ef_own_nm5 (m : MethodId)  : entryFrame m #[(.int 5)] 1 = mkF m 0 #[iv 5] [] := by first | (simp [entryFrame, mkF, argsToLocals, Value.category]; done) | rfl
set_option maxRecDepth 65536 in
set_option maxHeartbeats 40000000 in
theorem own_nm5 (l : Launch) (Z : State) (a0 : Array Value) (H : own_Wld Z a0) {cw : List Jvm.Cond}  (h0 : Heap) (O0 : Ext Z.heap h0) :
    Own.Con l Z consts_1 (⟨"com/example/scholiast/scholiast/ModsReaderNeedsChildElementPinLaw", "nameChars", "(I)[C"⟩ : MethodName) method_3_code 1 (some (.array .char)) cw ({ frames := 0, cells := 1, slots := 11, locals := 0 } : Room) #[(.int 5)] h0 (fun v h => Keep h0 h [] ∧ ∃ x kc, v = some (.ref x) ∧ h0.size ≤ x ∧ Arv Z h x kc .char (11 : Int32) (own_M5.map Value.int) (.int 0)) := by
  have hw := H.1
  have hW := fun (i : Nat) (w : Jvm.Cond) (e : tables_1[i]? = some w) => hw w (List.mem_of_getElem? e)
  have hCm := H.2.1
  have hSi := H.2.2.1
  have hEL := H.2.2.2
  have hWs : ∀ d ∈ StrChars.Road.words, d.before a0 Z = true := fun d hd => hw d (own_wbackV d hd)
  have hWe : ∀ d ∈ StrChars.Road.wordsEq, d.before a0 Z = true := fun d hd => hw d (own_weqW d hd)
  have hSA : ∀ d ∈ Bundle.stringAtoms, d.before a0 Z = true := fun d hd => hw d (own_wSA d hd)
  refine Own.Con.of own_pn87ea0b hEL O0 ?_
  intro p e s m below meth c T0 G vm0 hx hby hml hret hnm hG hR S0
  have hz : ∀ L : Array Slot, L.size = 1 → L.size = c.maxLocals := fun L q => q.trans hml.symm
  rw [own_ef_own_nm5]
  show G T0 (mkF m 0 #[iv 5] [])
  refine hG.st (fun t q => XS.iloadN S0.here hx rfl (hb hby own_d7_0) rfl (XS.ifYes S0.here hx rfl (pc0 := 1) (pc' := 28) rfl (hb hby own_d7_1) rfl ((if0 _ _).trans (feq (by decide : ¬ ((5 : Int32) = (0 : Int32)))).2) (by decide) (by decide) (XS.iloadN S0.here hx rfl (hb hby own_d7_28) rfl (XS.iconst S0.here hx rfl (hb hby own_d7_29) (XS.icmpYes S0.here hx rfl (pc0 := 30) (pc' := 146) rfl (hb hby own_d7_30) rfl (feq (by decide : ¬ ((5 : Int32) = (1 : Int32)))).2 (by decide) (by decide) (XS.iloadN S0.here hx rfl (hb hby own_d7_146) rfl q)))))) ?_
  show G T0 (mkF m 147 #[iv 5] [(.int 5)])
  refine hG.st (fun t q => XS.iconst S0.here hx rfl (hb hby own_d7_147) (XS.icmpYes S0.here hx rfl (pc0 := 148) (pc' := 198) rfl (hb hby own_d7_148) rfl (feq (by decide : ¬ ((5 : Int32) = (2 : Int32)))).2 (by decide) (by decide) (XS.iloadN S0.here hx rfl (hb hby own_d7_198) rfl (XS.iconst S0.here hx rfl (hb hby own_d7_199) (XS.icmpYes S0.here hx rfl (pc0 := 200) (pc' := 232) rfl (hb hby own_d7_200) rfl (feq (by decide : ¬ ((5 : Int32) = (3 : Int32)))).2 (by decide) (by decide) (XS.iloadN S0.here hx rfl (hb hby own_d7_232) rfl q)))))) ?_
  show G T0 (mkF m 233 #[iv 5] [(.int 5)])
  refine hG.st (fun t q => XS.iconst S0.here hx rfl (hb hby own_d7_233) (XS.icmpYes S0.here hx rfl (pc0 := 234) (pc' := 261) rfl (hb hby own_d7_234) rfl (feq (by decide : ¬ ((5 : Int32) = (4 : Int32)))).2 (by decide) (by decide) (XS.iloadN S0.here hx rfl (hb hby own_d7_261) rfl (XS.iconst S0.here hx rfl (hb hby own_d7_262) (XS.icmpNo S0.here hx rfl (hb hby own_d7_263) rfl (teq (by decide : (5 : Int32) = (5 : Int32))).2 (XS.bipush S0.here hx rfl (hb hby own_d7_266) q)))))) ?_
  show G T0 (mkF m 268 #[iv 5] [(.int 11)])
  refine Own.Sit.newP hG S0 hx (aty := .char) (hW 4 _ rfl) rfl (hb hby own_d7_268) rfl (by decide) (cap := 11) (by decide) (by decide) (by decide) (by decide) (fun T449 h449 x449 k449 g_x449 S449 J449 Sf449 (V449 : Arv Z h449 x449 k449 .char (11 : Int32) [(.int 0), (.int 0), (.int 0), (.int 0), (.int 0), (.int 0), (.int 0), (.int 0), (.int 0), (.int 0), (.int 0)] (.int 0)) => ?_)
  have lt_x449 := V449.lt
  have ga_x449 : Z.heap.size ≤ x449 := Nat.le_trans S0.le (Nat.le_of_eq g_x449.symm)
  refine hG.st (fun t q => XS.dup S449.here hx rfl (hb hby own_d7_270) rfl rfl (XS.iconst S449.here hx rfl (hb hby own_d7_271) (XS.bipush S449.here hx rfl (hb hby own_d7_272) q))) ?_
  show G T449 (mkF m 274 #[iv 5] [(.int 114), (.int 0), (.ref x449), (.ref x449)])
  refine Own.Sit.stC hG S449 hx V449 ga_x449 ⟨by decide, by decide⟩ 0 rfl (Nat.le_of_ble_eq_true rfl) rfl rfl (hb hby own_d7_274) (fun T450 h450 S450 J450 (V450 : Arv Z h450 x449 k449 .char (11 : Int32) [(.int 114), (.int 0), (.int 0), (.int 0), (.int 0), (.int 0), (.int 0), (.int 0), (.int 0), (.int 0), (.int 0)] (.int 0)) => ?_)
  refine hG.st (fun t q => XS.dup S450.here hx rfl (hb hby own_d7_275) rfl rfl (XS.iconst S450.here hx rfl (hb hby own_d7_276) (XS.bipush S450.here hx rfl (hb hby own_d7_277) q))) ?_
  show G T450 (mkF m 279 #[iv 5] [(.int 101), (.int 1), (.ref x449), (.ref x449)])
  refine Own.Sit.stC hG S450 hx V450 ga_x449 ⟨by decide, by decide⟩ 1 rfl (Nat.le_of_ble_eq_true rfl) rfl rfl (hb hby own_d7_279) (fun T451 h451 S451 J451 (V451 : Arv Z h451 x449 k449 .char (11 : Int32) [(.int 114), (.int 101), (.int 0), (.int 0), (.int 0), (.int 0), (.int 0), (.int 0), (.int 0), (.int 0), (.int 0)] (.int 0)) => ?_)
  refine hG.st (fun t q => XS.dup S451.here hx rfl (hb hby own_d7_280) rfl rfl (XS.iconst S451.here hx rfl (hb hby own_d7_281) (XS.bipush S451.here hx rfl (hb hby own_d7_282) q))) ?_
  show G T451 (mkF m 284 #[iv 5] [(.int 108), (.int 2), (.ref x449), (.ref x449)])
  refine Own.Sit.stC hG S451 hx V451 ga_x449 ⟨by decide, by decide⟩ 2 rfl (Nat.le_of_ble_eq_true rfl) rfl rfl (hb hby own_d7_284) (fun T452 h452 S452 J452 (V452 : Arv Z h452 x449 k449 .char (11 : Int32) [(.int 114), (.int 101), (.int 108), (.int 0), (.int 0), (.int 0), (.int 0), (.int 0), (.int 0), (.int 0), (.int 0)] (.int 0)) => ?_)
  refine hG.st (fun t q => XS.dup S452.here hx rfl (hb hby own_d7_285) rfl rfl (XS.iconst S452.here hx rfl (hb hby own_d7_286) (XS.bipush S452.here hx rfl (hb hby own_d7_287) q))) ?_
  show G T452 (mkF m 289 #[iv 5] [(.int 97), (.int 3), (.ref x449), (.ref x449)])
  refine Own.Sit.stC hG S452 hx V452 ga_x449 ⟨by decide, by decide⟩ 3 rfl (Nat.le_of_ble_eq_true rfl) rfl rfl (hb hby own_d7_289) (fun T453 h453 S453 J453 (V453 : Arv Z h453 x449 k449 .char (11 : Int32) [(.int 114), (.int 101), (.int 108), (.int 97), (.int 0), (.int 0), (.int 0), (.int 0), (.int 0), (.int 0), (.int 0)] (.int 0)) => ?_)
  refine hG.st (fun t q => XS.dup S453.here hx rfl (hb hby own_d7_290) rfl rfl (XS.iconst S453.here hx rfl (hb hby own_d7_291) (XS.bipush S453.here hx rfl (hb hby own_d7_292) q))) ?_
  show G T453 (mkF m 294 #[iv 5] [(.int 116), (.int 4), (.ref x449), (.ref x449)])
  refine Own.Sit.stC hG S453 hx V453 ga_x449 ⟨by decide, by decide⟩ 4 rfl (Nat.le_of_ble_eq_true rfl) rfl rfl (hb hby own_d7_294) (fun T454 h454 S454 J454 (V454 : Arv Z h454 x449 k449 .char (11 : Int32) [(.int 114), (.int 101), (.int 108), (.int 97), (.int 116), (.int 0), (.int 0), (.int 0), (.int 0), (.int 0), (.int 0)] (.int 0)) => ?_)
  refine hG.st (fun t q => XS.dup S454.here hx rfl (hb hby own_d7_295) rfl rfl (XS.iconst S454.here hx rfl (hb hby own_d7_296) (XS.bipush S454.here hx rfl (hb hby own_d7_297) q))) ?_
  show G T454 (mkF m 299 #[iv 5] [(.int 101), (.int 5), (.ref x449), (.ref x449)])
  refine Own.Sit.stC hG S454 hx V454 ga_x449 ⟨by decide, by decide⟩ 5 rfl (Nat.le_of_ble_eq_true rfl) rfl rfl (hb hby own_d7_299) (fun T455 h455 S455 J455 (V455 : Arv Z h455 x449 k449 .char (11 : Int32) [(.int 114), (.int 101), (.int 108), (.int 97), (.int 116), (.int 101), (.int 0), (.int 0), (.int 0), (.int 0), (.int 0)] (.int 0)) => ?_)
  refine hG.st (fun t q => XS.dup S455.here hx rfl (hb hby own_d7_300) rfl rfl (XS.bipush S455.here hx rfl (hb hby own_d7_301) (XS.bipush S455.here hx rfl (hb hby own_d7_303) q))) ?_
  show G T455 (mkF m 305 #[iv 5] [(.int 100), (.int 6), (.ref x449), (.ref x449)])
  refine Own.Sit.stC hG S455 hx V455 ga_x449 ⟨by decide, by decide⟩ 6 rfl (Nat.le_of_ble_eq_true rfl) rfl rfl (hb hby own_d7_305) (fun T456 h456 S456 J456 (V456 : Arv Z h456 x449 k449 .char (11 : Int32) [(.int 114), (.int 101), (.int 108), (.int 97), (.int 116), (.int 101), (.int 100), (.int 0), (.int 0), (.int 0), (.int 0)] (.int 0)) => ?_)
  refine hG.st (fun t q => XS.dup S456.here hx rfl (hb hby own_d7_306) rfl rfl (XS.bipush S456.here hx rfl (hb hby own_d7_307) (XS.bipush S456.here hx rfl (hb hby own_d7_309) q))) ?_
  show G T456 (mkF m 311 #[iv 5] [(.int 73), (.int 7), (.ref x449), (.ref x449)])
  refine Own.Sit.stC hG S456 hx V456 ga_x449 ⟨by decide, by decide⟩ 7 rfl (Nat.le_of_ble_eq_true rfl) rfl rfl (hb hby own_d7_311) (fun T457 h457 S457 J457 (V457 : Arv Z h457 x449 k449 .char (11 : Int32) [(.int 114), (.int 101), (.int 108), (.int 97), (.int 116), (.int 101), (.int 100), (.int 73), (.int 0), (.int 0), (.int 0)] (.int 0)) => ?_)
  refine hG.st (fun t q => XS.dup S457.here hx rfl (hb hby own_d7_312) rfl rfl (XS.bipush S457.here hx rfl (hb hby own_d7_313) (XS.bipush S457.here hx rfl (hb hby own_d7_315) q))) ?_
  show G T457 (mkF m 317 #[iv 5] [(.int 116), (.int 8), (.ref x449), (.ref x449)])
  refine Own.Sit.stC hG S457 hx V457 ga_x449 ⟨by decide, by decide⟩ 8 rfl (Nat.le_of_ble_eq_true rfl) rfl rfl (hb hby own_d7_317) (fun T458 h458 S458 J458 (V458 : Arv Z h458 x449 k449 .char (11 : Int32) [(.int 114), (.int 101), (.int 108), (.int 97), (.int 116), (.int 101), (.int 100), (.int 73), (.int 116), (.int 0), (.int 0)] (.int 0)) => ?_)
  refine hG.st (fun t q => XS.dup S458.here hx rfl (hb hby own_d7_318) rfl rfl (XS.bipush S458.here hx rfl (hb hby own_d7_319) (XS.bipush S458.here hx rfl (hb hby own_d7_321) q))) ?_
  show G T458 (mkF m 323 #[iv 5] [(.int 101), (.int 9), (.ref x449), (.ref x449)])
  refine Own.Sit.stC hG S458 hx V458 ga_x449 ⟨by decide, by decide⟩ 9 rfl (Nat.le_of_ble_eq_true rfl) rfl rfl (hb hby own_d7_323) (fun T459 h459 S459 J459 (V459 : Arv Z h459 x449 k449 .char (11 : Int32) [(.int 114), (.int 101), (.int 108), (.int 97), (.int 116), (.int 101), (.int 100), (.int 73), (.int 116), (.int 101), (.int 0)] (.int 0)) => ?_)
  refine hG.st (fun t q => XS.dup S459.here hx rfl (hb hby own_d7_324) rfl rfl (XS.bipush S459.here hx rfl (hb hby own_d7_325) (XS.bipush S459.here hx rfl (hb hby own_d7_327) q))) ?_
  show G T459 (mkF m 329 #[iv 5] [(.int 109), (.int 10), (.ref x449), (.ref x449)])
  refine Own.Sit.stC hG S459 hx V459 ga_x449 ⟨by decide, by decide⟩ 10 rfl (Nat.le_of_ble_eq_true rfl) rfl rfl (hb hby own_d7_329) (fun T460 h460 S460 J460 (V460 : Arv Z h460 x449 k449 .char (11 : Int32) [(.int 114), (.int 101), (.int 108), (.int 97), (.int 116), (.int 101), (.int 100), (.int 73), (.int 116), (.int 101), (.int 109)] (.int 0)) => ?_)
  have J461 : Own.Stp Z consts_1 vm0 h0 vm0 h450 [] := Own.Stp.trans J449 J450 (all0) (allS (Or.inr (Nat.le_of_eq g_x449.symm)) all0)
  have J462 : Own.Stp Z consts_1 vm0 h0 vm0 h451 [] := Own.Stp.trans J461 J451 (all0) (allS (Or.inr (Nat.le_of_eq g_x449.symm)) all0)
  have J463 : Own.Stp Z consts_1 vm0 h0 vm0 h452 [] := Own.Stp.trans J462 J452 (all0) (allS (Or.inr (Nat.le_of_eq g_x449.symm)) all0)
  have J464 : Own.Stp Z consts_1 vm0 h0 vm0 h453 [] := Own.Stp.trans J463 J453 (all0) (allS (Or.inr (Nat.le_of_eq g_x449.symm)) all0)
  have J465 : Own.Stp Z consts_1 vm0 h0 vm0 h454 [] := Own.Stp.trans J464 J454 (all0) (allS (Or.inr (Nat.le_of_eq g_x449.symm)) all0)
  have J466 : Own.Stp Z consts_1 vm0 h0 vm0 h455 [] := Own.Stp.trans J465 J455 (all0) (allS (Or.inr (Nat.le_of_eq g_x449.symm)) all0)
  have J467 : Own.Stp Z consts_1 vm0 h0 vm0 h456 [] := Own.Stp.trans J466 J456 (all0) (allS (Or.inr (Nat.le_of_eq g_x449.symm)) all0)
  have J468 : Own.Stp Z consts_1 vm0 h0 vm0 h457 [] := Own.Stp.trans J467 J457 (all0) (allS (Or.inr (Nat.le_of_eq g_x449.symm)) all0)
  have J469 : Own.Stp Z consts_1 vm0 h0 vm0 h458 [] := Own.Stp.trans J468 J458 (all0) (allS (Or.inr (Nat.le_of_eq g_x449.symm)) all0)
  have J470 : Own.Stp Z consts_1 vm0 h0 vm0 h459 [] := Own.Stp.trans J469 J459 (all0) (allS (Or.inr (Nat.le_of_eq g_x449.symm)) all0)
  have J471 : Own.Stp Z consts_1 vm0 h0 vm0 h460 [] := Own.Stp.trans J470 J460 (all0) (allS (Or.inr (Nat.le_of_eq g_x449.symm)) all0)
  show G T460 (mkF m 330 #[iv 5] [(.ref x449)])
  exact Own.Sit.retO hR S460 hx hret rfl (Or.inr (Or.inr (Or.inr (Or.inr ⟨rfl, rfl, rfl⟩)))) (hb hby own_d7_330) (by decide) (by decide) ⟨J471.1, x449, _, rfl, (Nat.le_of_eq g_x449.symm), V460⟩
theorem own_d7_331 : decode method_3_code 331 = .ok (.iload_n 0, 1) := by decide +kernel
theorem own_d7_332 : decode method_3_code 332 = .ok (.bipush 6, 2) := by decide +kernel
theorem own_d7_334 : decode method_3_code 334 = .ok (.if_icmp .ne 92, 3) := by decide +kernel
theorem own_d7_337 : decode method_3_code 337 = .ok (.bipush 15, 2) := by decide +kernel
theorem own_d7_339 : decode method_3_code 339 = .ok (.newarray .char, 2) := by decide +kernel
theorem own_d7_341 : decode method_3_code 341 = .ok (.dup, 1) := by decide +kernel
theorem own_d7_342 : decode method_3_code 342 = .ok (.iconst 0, 1) := by decide +kernel
theorem own_d7_343 : decode method_3_code 343 = .ok (.bipush 99, 2) := by decide +kernel
theorem own_d7_345 : decode method_3_code 345 = .ok (.castore, 1) := by decide +kernel
theorem own_d7_346 : decode method_3_code 346 = .ok (.dup, 1) := by decide +kernel
theorem own_d7_347 : decode method_3_code 347 = .ok (.iconst 1, 1) := by decide +kernel
theorem own_d7_348 : decode method_3_code 348 = .ok (.bipush 111, 2) := by decide +kernel
theorem own_d7_350 : decode method_3_code 350 = .ok (.castore, 1) := by decide +kernel
theorem own_d7_351 : decode method_3_code 351 = .ok (.dup, 1) := by decide +kernel
theorem own_d7_352 : decode method_3_code 352 = .ok (.iconst 2, 1) := by decide +kernel
theorem own_d7_353 : decode method_3_code 353 = .ok (.bipush 112, 2) := by decide +kernel
theorem own_d7_355 : decode method_3_code 355 = .ok (.castore, 1) := by decide +kernel
theorem own_d7_356 : decode method_3_code 356 = .ok (.dup, 1) := by decide +kernel
theorem own_d7_357 : decode method_3_code 357 = .ok (.iconst 3, 1) := by decide +kernel
theorem own_d7_358 : decode method_3_code 358 = .ok (.bipush 121, 2) := by decide +kernel
theorem own_d7_360 : decode method_3_code 360 = .ok (.castore, 1) := by decide +kernel
theorem own_d7_361 : decode method_3_code 361 = .ok (.dup, 1) := by decide +kernel
theorem own_d7_362 : decode method_3_code 362 = .ok (.iconst 4, 1) := by decide +kernel
theorem own_d7_363 : decode method_3_code 363 = .ok (.bipush 73, 2) := by decide +kernel
theorem own_d7_365 : decode method_3_code 365 = .ok (.castore, 1) := by decide +kernel
theorem own_d7_366 : decode method_3_code 366 = .ok (.dup, 1) := by decide +kernel
theorem own_d7_367 : decode method_3_code 367 = .ok (.iconst 5, 1) := by decide +kernel
theorem own_d7_368 : decode method_3_code 368 = .ok (.bipush 110, 2) := by decide +kernel
theorem own_d7_370 : decode method_3_code 370 = .ok (.castore, 1) := by decide +kernel
theorem own_d7_371 : decode method_3_code 371 = .ok (.dup, 1) := by decide +kernel
theorem own_d7_372 : decode method_3_code 372 = .ok (.bipush 6, 2) := by decide +kernel
theorem own_d7_374 : decode method_3_code 374 = .ok (.bipush 102, 2) := by decide +kernel
theorem own_d7_376 : decode method_3_code 376 = .ok (.castore, 1) := by decide +kernel
theorem own_d7_377 : decode method_3_code 377 = .ok (.dup, 1) := by decide +kernel
theorem own_d7_378 : decode method_3_code 378 = .ok (.bipush 7, 2) := by decide +kernel
theorem own_d7_380 : decode method_3_code 380 = .ok (.bipush 111, 2) := by decide +kernel
theorem own_d7_382 : decode method_3_code 382 = .ok (.castore, 1) := by decide +kernel
theorem own_d7_383 : decode method_3_code 383 = .ok (.dup, 1) := by decide +kernel
theorem own_d7_384 : decode method_3_code 384 = .ok (.bipush 8, 2) := by decide +kernel
theorem own_d7_386 : decode method_3_code 386 = .ok (.bipush 114, 2) := by decide +kernel
theorem own_d7_388 : decode method_3_code 388 = .ok (.castore, 1) := by decide +kernel
theorem own_d7_389 : decode method_3_code 389 = .ok (.dup, 1) := by decide +kernel
theorem own_d7_390 : decode method_3_code 390 = .ok (.bipush 9, 2) := by decide +kernel
theorem own_d7_392 : decode method_3_code 392 = .ok (.bipush 109, 2) := by decide +kernel
theorem own_d7_394 : decode method_3_code 394 = .ok (.castore, 1) := by decide +kernel
theorem own_d7_395 : decode method_3_code 395 = .ok (.dup, 1) := by decide +kernel
theorem own_d7_396 : decode method_3_code 396 = .ok (.bipush 10, 2) := by decide +kernel
theorem own_d7_398 : decode method_3_code 398 = .ok (.bipush 97, 2) := by decide +kernel
theorem own_d7_400 : decode method_3_code 400 = .ok (.castore, 1) := by decide +kernel
theorem own_d7_401 : decode method_3_code 401 = .ok (.dup, 1) := by decide +kernel
theorem own_d7_402 : decode method_3_code 402 = .ok (.bipush 11, 2) := by decide +kernel
theorem own_d7_404 : decode method_3_code 404 = .ok (.bipush 116, 2) := by decide +kernel
theorem own_d7_406 : decode method_3_code 406 = .ok (.castore, 1) := by decide +kernel
theorem own_d7_407 : decode method_3_code 407 = .ok (.dup, 1) := by decide +kernel
theorem own_d7_408 : decode method_3_code 408 = .ok (.bipush 12, 2) := by decide +kernel
theorem own_d7_410 : decode method_3_code 410 = .ok (.bipush 105, 2) := by decide +kernel
theorem own_d7_412 : decode method_3_code 412 = .ok (.castore, 1) := by decide +kernel
theorem own_d7_413 : decode method_3_code 413 = .ok (.dup, 1) := by decide +kernel
theorem own_d7_414 : decode method_3_code 414 = .ok (.bipush 13, 2) := by decide +kernel
theorem own_d7_416 : decode method_3_code 416 = .ok (.bipush 111, 2) := by decide +kernel
theorem own_d7_418 : decode method_3_code 418 = .ok (.castore, 1) := by decide +kernel
theorem own_d7_419 : decode method_3_code 419 = .ok (.dup, 1) := by decide +kernel
theorem own_d7_420 : decode method_3_code 420 = .ok (.bipush 14, 2) := by decide +kernel
theorem own_d7_422 : decode method_3_code 422 = .ok (.bipush 110, 2) := by decide +kernel
theorem own_d7_424 : decode method_3_code 424 = .ok (.castore, 1) := by decide +kernel
theorem own_d7_425 : decode method_3_code 425 = .ok (.areturn, 1) := by decide +kernel
theorem own_ef_own_nm6 (m : MethodId)  : entryFrame m #[(.int 6)] 1 = mkF m 0 #[iv 6] [] := by first | (simp [entryFrame, mkF, argsToLocals, Value.category]; done) | rfl
set_option maxRecDepth 65536 in
set_option maxHeartbeats 40000000 in
theorem own_nm6 (l : Launch) (Z : State) (a0 : Array Value) (H : own_Wld Z a0) {cw : List Jvm.Cond}  (h0 : Heap) (O0 : Ext Z.heap h0) :
    Own.Con l Z consts_1 (⟨"com/example/scholiast/scholiast/ModsReaderNeedsChildElementPinLaw", "nameChars", "(I)[C"⟩ : MethodName) method_3_code 1 (some (.array .char)) cw ({ frames := 0, cells := 1, slots := 15, locals := 0 } : Room) #[(.int 6)] h0 (fun v h => Keep h0 h [] ∧ ∃ x kc, v = some (.ref x) ∧ h0.size ≤ x ∧ Arv Z h x kc .char (15 : Int32) (own_M6.map Value.int) (.int 0)) := by
  have hw := H.1
  have hW := fun (i : Nat) (w : Jvm.Cond) (e : tables_1[i]? = some w) => hw w (List.mem_of_getElem? e)
  have hCm := H.2.1
  have hSi := H.2.2.1
  have hEL := H.2.2.2
  have hWs : ∀ d ∈ StrChars.Road.words, d.before a0 Z = true := fun d hd => hw d (own_wbackV d hd)
  have hWe : ∀ d ∈ StrChars.Road.wordsEq, d.before a0 Z = true := fun d hd => hw d (own_weqW d hd)
  have hSA : ∀ d ∈ Bundle.stringAtoms, d.before a0 Z = true := fun d hd => hw d (own_wSA d hd)
  refine Own.Con.of own_pn87ea0b hEL O0 ?_
  intro p e s m below meth c T0 G vm0 hx hby hml hret hnm hG hR S0
  have hz : ∀ L : Array Slot, L.size = 1 → L.size = c.maxLocals := fun L q => q.trans hml.symm
  rw [own_ef_own_nm6]
  show G T0 (mkF m 0 #[iv 6] [])
  refine hG.st (fun t q => XS.iloadN S0.here hx rfl (hb hby own_d7_0) rfl (XS.ifYes S0.here hx rfl (pc0 := 1) (pc' := 28) rfl (hb hby own_d7_1) rfl ((if0 _ _).trans (feq (by decide : ¬ ((6 : Int32) = (0 : Int32)))).2) (by decide) (by decide) (XS.iloadN S0.here hx rfl (hb hby own_d7_28) rfl (XS.iconst S0.here hx rfl (hb hby own_d7_29) (XS.icmpYes S0.here hx rfl (pc0 := 30) (pc' := 146) rfl (hb hby own_d7_30) rfl (feq (by decide : ¬ ((6 : Int32) = (1 : Int32)))).2 (by decide) (by decide) (XS.iloadN S0.here hx rfl (hb hby own_d7_146) rfl q)))))) ?_
  show G T0 (mkF m 147 #[iv 6] [(.int 6)])
  refine hG.st (fun t q => XS.iconst S0.here hx rfl (hb hby own_d7_147) (XS.icmpYes S0.here hx rfl (pc0 := 148) (pc' := 198) rfl (hb hby own_d7_148) rfl (feq (by decide : ¬ ((6 : Int32) = (2 : Int32)))).2 (by decide) (by decide) (XS.iloadN S0.here hx rfl (hb hby own_d7_198) rfl (XS.iconst S0.here hx rfl (hb hby own_d7_199) (XS.icmpYes S0.here hx rfl (pc0 := 200) (pc' := 232) rfl (hb hby own_d7_200) rfl (feq (by decide : ¬ ((6 : Int32) = (3 : Int32)))).2 (by decide) (by decide) (XS.iloadN S0.here hx rfl (hb hby own_d7_232) rfl q)))))) ?_
  show G T0 (mkF m 233 #[iv 6] [(.int 6)])
  refine hG.st (fun t q => XS.iconst S0.here hx rfl (hb hby own_d7_233) (XS.icmpYes S0.here hx rfl (pc0 := 234) (pc' := 261) rfl (hb hby own_d7_234) rfl (feq (by decide : ¬ ((6 : Int32) = (4 : Int32)))).2 (by decide) (by decide) (XS.iloadN S0.here hx rfl (hb hby own_d7_261) rfl (XS.iconst S0.here hx rfl (hb hby own_d7_262) (XS.icmpYes S0.here hx rfl (pc0 := 263) (pc' := 331) rfl (hb hby own_d7_263) rfl (feq (by decide : ¬ ((6 : Int32) = (5 : Int32)))).2 (by decide) (by decide) (XS.iloadN S0.here hx rfl (hb hby own_d7_331) rfl q)))))) ?_
  show G T0 (mkF m 332 #[iv 6] [(.int 6)])
  refine hG.st (fun t q => XS.bipush S0.here hx rfl (hb hby own_d7_332) (XS.icmpNo S0.here hx rfl (hb hby own_d7_334) rfl (teq (by decide : (6 : Int32) = (6 : Int32))).2 (XS.bipush S0.here hx rfl (hb hby own_d7_337) q))) ?_
  show G T0 (mkF m 339 #[iv 6] [(.int 15)])
  refine Own.Sit.newP hG S0 hx (aty := .char) (hW 4 _ rfl) rfl (hb hby own_d7_339) rfl (by decide) (cap := 15) (by decide) (by decide) (by decide) (by decide) (fun T472 h472 x472 k472 g_x472 S472 J472 Sf472 (V472 : Arv Z h472 x472 k472 .char (15 : Int32) (List.map Value.int (0::0::0::0::0::0::0::0::0::0::0::0::0::0::0::[])) (.int 0)) => ?_)
  have lt_x472 := V472.lt
  have ga_x472 : Z.heap.size ≤ x472 := Nat.le_trans S0.le (Nat.le_of_eq g_x472.symm)
  refine hG.st (fun t q => XS.dup S472.here hx rfl (hb hby own_d7_341) rfl rfl (XS.iconst S472.here hx rfl (hb hby own_d7_342) (XS.bipush S472.here hx rfl (hb hby own_d7_343) q))) ?_
  show G T472 (mkF m 345 #[iv 6] [(.int 99), (.int 0), (.ref x472), (.ref x472)])
  refine Own.Sit.stC hG S472 hx V472 ga_x472 ⟨by decide, by decide⟩ 0 rfl (Nat.le_of_ble_eq_true rfl) rfl rfl (hb hby own_d7_345) (fun T473 h473 S473 J473 (V473 : Arv Z h473 x472 k472 .char (15 : Int32) (List.map Value.int (99::0::0::0::0::0::0::0::0::0::0::0::0::0::0::[])) (.int 0)) => ?_)
  refine hG.st (fun t q => XS.dup S473.here hx rfl (hb hby own_d7_346) rfl rfl (XS.iconst S473.here hx rfl (hb hby own_d7_347) (XS.bipush S473.here hx rfl (hb hby own_d7_348) q))) ?_
  show G T473 (mkF m 350 #[iv 6] [(.int 111), (.int 1), (.ref x472), (.ref x472)])
  refine Own.Sit.stC hG S473 hx V473 ga_x472 ⟨by decide, by decide⟩ 1 rfl (Nat.le_of_ble_eq_true rfl) rfl rfl (hb hby own_d7_350) (fun T474 h474 S474 J474 (V474 : Arv Z h474 x472 k472 .char (15 : Int32) (List.map Value.int (99::111::0::0::0::0::0::0::0::0::0::0::0::0::0::[])) (.int 0)) => ?_)
  refine hG.st (fun t q => XS.dup S474.here hx rfl (hb hby own_d7_351) rfl rfl (XS.iconst S474.here hx rfl (hb hby own_d7_352) (XS.bipush S474.here hx rfl (hb hby own_d7_353) q))) ?_
  show G T474 (mkF m 355 #[iv 6] [(.int 112), (.int 2), (.ref x472), (.ref x472)])
  refine Own.Sit.stC hG S474 hx V474 ga_x472 ⟨by decide, by decide⟩ 2 rfl (Nat.le_of_ble_eq_true rfl) rfl rfl (hb hby own_d7_355) (fun T475 h475 S475 J475 (V475 : Arv Z h475 x472 k472 .char (15 : Int32) (List.map Value.int (99::111::112::0::0::0::0::0::0::0::0::0::0::0::0::[])) (.int 0)) => ?_)
  refine hG.st (fun t q => XS.dup S475.here hx rfl (hb hby own_d7_356) rfl rfl (XS.iconst S475.here hx rfl (hb hby own_d7_357) (XS.bipush S475.here hx rfl (hb hby own_d7_358) q))) ?_
  show G T475 (mkF m 360 #[iv 6] [(.int 121), (.int 3), (.ref x472), (.ref x472)])
  refine Own.Sit.stC hG S475 hx V475 ga_x472 ⟨by decide, by decide⟩ 3 rfl (Nat.le_of_ble_eq_true rfl) rfl rfl (hb hby own_d7_360) (fun T476 h476 S476 J476 (V476 : Arv Z h476 x472 k472 .char (15 : Int32) (List.map Value.int (99::111::112::121::0::0::0::0::0::0::0::0::0::0::0::[])) (.int 0)) => ?_)
  refine hG.st (fun t q => XS.dup S476.here hx rfl (hb hby own_d7_361) rfl rfl (XS.iconst S476.here hx rfl (hb hby own_d7_362) (XS.bipush S476.here hx rfl (hb hby own_d7_363) q))) ?_
  show G T476 (mkF m 365 #[iv 6] [(.int 73), (.int 4), (.ref x472), (.ref x472)])
  refine Own.Sit.stC hG S476 hx V476 ga_x472 ⟨by decide, by decide⟩ 4 rfl (Nat.le_of_ble_eq_true rfl) rfl rfl (hb hby own_d7_365) (fun T477 h477 S477 J477 (V477 : Arv Z h477 x472 k472 .char (15 : Int32) (List.map Value.int (99::111::112::121::73::0::0::0::0::0::0::0::0::0::0::[])) (.int 0)) => ?_)
  refine hG.st (fun t q => XS.dup S477.here hx rfl (hb hby own_d7_366) rfl rfl (XS.iconst S477.here hx rfl (hb hby own_d7_367) (XS.bipush S477.here hx rfl (hb hby own_d7_368) q))) ?_
  show G T477 (mkF m 370 #[iv 6] [(.int 110), (.int 5), (.ref x472), (.ref x472)])
  refine Own.Sit.stC hG S477 hx V477 ga_x472 ⟨by decide, by decide⟩ 5 rfl (Nat.le_of_ble_eq_true rfl) rfl rfl (hb hby own_d7_370) (fun T478 h478 S478 J478 (V478 : Arv Z h478 x472 k472 .char (15 : Int32) (List.map Value.int (99::111::112::121::73::110::0::0::0::0::0::0::0::0::0::[])) (.int 0)) => ?_)
  refine hG.st (fun t q => XS.dup S478.here hx rfl (hb hby own_d7_371) rfl rfl (XS.bipush S478.here hx rfl (hb hby own_d7_372) (XS.bipush S478.here hx rfl (hb hby own_d7_374) q))) ?_
  show G T478 (mkF m 376 #[iv 6] [(.int 102), (.int 6), (.ref x472), (.ref x472)])
  refine Own.Sit.stC hG S478 hx V478 ga_x472 ⟨by decide, by decide⟩ 6 rfl (Nat.le_of_ble_eq_true rfl) rfl rfl (hb hby own_d7_376) (fun T479 h479 S479 J479 (V479 : Arv Z h479 x472 k472 .char (15 : Int32) (List.map Value.int (99::111::112::121::73::110::102::0::0::0::0::0::0::0::0::[])) (.int 0)) => ?_)
  refine hG.st (fun t q => XS.dup S479.here hx rfl (hb hby own_d7_377) rfl rfl (XS.bipush S479.here hx rfl (hb hby own_d7_378) (XS.bipush S479.here hx rfl (hb hby own_d7_380) q))) ?_
  show G T479 (mkF m 382 #[iv 6] [(.int 111), (.int 7), (.ref x472), (.ref x472)])
  refine Own.Sit.stC hG S479 hx V479 ga_x472 ⟨by decide, by decide⟩ 7 rfl (Nat.le_of_ble_eq_true rfl) rfl rfl (hb hby own_d7_382) (fun T480 h480 S480 J480 (V480 : Arv Z h480 x472 k472 .char (15 : Int32) (List.map Value.int (99::111::112::121::73::110::102::111::0::0::0::0::0::0::0::[])) (.int 0)) => ?_)
  refine hG.st (fun t q => XS.dup S480.here hx rfl (hb hby own_d7_383) rfl rfl (XS.bipush S480.here hx rfl (hb hby own_d7_384) (XS.bipush S480.here hx rfl (hb hby own_d7_386) q))) ?_
  show G T480 (mkF m 388 #[iv 6] [(.int 114), (.int 8), (.ref x472), (.ref x472)])
  refine Own.Sit.stC hG S480 hx V480 ga_x472 ⟨by decide, by decide⟩ 8 rfl (Nat.le_of_ble_eq_true rfl) rfl rfl (hb hby own_d7_388) (fun T481 h481 S481 J481 (V481 : Arv Z h481 x472 k472 .char (15 : Int32) (List.map Value.int (99::111::112::121::73::110::102::111::114::0::0::0::0::0::0::[])) (.int 0)) => ?_)
  refine hG.st (fun t q => XS.dup S481.here hx rfl (hb hby own_d7_389) rfl rfl (XS.bipush S481.here hx rfl (hb hby own_d7_390) (XS.bipush S481.here hx rfl (hb hby own_d7_392) q))) ?_
  show G T481 (mkF m 394 #[iv 6] [(.int 109), (.int 9), (.ref x472), (.ref x472)])
  refine Own.Sit.stC hG S481 hx V481 ga_x472 ⟨by decide, by decide⟩ 9 rfl (Nat.le_of_ble_eq_true rfl) rfl rfl (hb hby own_d7_394) (fun T482 h482 S482 J482 (V482 : Arv Z h482 x472 k472 .char (15 : Int32) (List.map Value.int (99::111::112::121::73::110::102::111::114::109::0::0::0::0::0::[])) (.int 0)) => ?_)
  refine hG.st (fun t q => XS.dup S482.here hx rfl (hb hby own_d7_395) rfl rfl (XS.bipush S482.here hx rfl (hb hby own_d7_396) (XS.bipush S482.here hx rfl (hb hby own_d7_398) q))) ?_
  show G T482 (mkF m 400 #[iv 6] [(.int 97), (.int 10), (.ref x472), (.ref x472)])
  refine Own.Sit.stC hG S482 hx V482 ga_x472 ⟨by decide, by decide⟩ 10 rfl (Nat.le_of_ble_eq_true rfl) rfl rfl (hb hby own_d7_400) (fun T483 h483 S483 J483 (V483 : Arv Z h483 x472 k472 .char (15 : Int32) (List.map Value.int (99::111::112::121::73::110::102::111::114::109::97::0::0::0::0::[])) (.int 0)) => ?_)
  refine hG.st (fun t q => XS.dup S483.here hx rfl (hb hby own_d7_401) rfl rfl (XS.bipush S483.here hx rfl (hb hby own_d7_402) (XS.bipush S483.here hx rfl (hb hby own_d7_404) q))) ?_
  show G T483 (mkF m 406 #[iv 6] [(.int 116), (.int 11), (.ref x472), (.ref x472)])
  refine Own.Sit.stC hG S483 hx V483 ga_x472 ⟨by decide, by decide⟩ 11 rfl (Nat.le_of_ble_eq_true rfl) rfl rfl (hb hby own_d7_406) (fun T484 h484 S484 J484 (V484 : Arv Z h484 x472 k472 .char (15 : Int32) (List.map Value.int (99::111::112::121::73::110::102::111::114::109::97::116::0::0::0::[])) (.int 0)) => ?_)
  refine hG.st (fun t q => XS.dup S484.here hx rfl (hb hby own_d7_407) rfl rfl (XS.bipush S484.here hx rfl (hb hby own_d7_408) (XS.bipush S484.here hx rfl (hb hby own_d7_410) q))) ?_
  show G T484 (mkF m 412 #[iv 6] [(.int 105), (.int 12), (.ref x472), (.ref x472)])
  refine Own.Sit.stC hG S484 hx V484 ga_x472 ⟨by decide, by decide⟩ 12 rfl (Nat.le_of_ble_eq_true rfl) rfl rfl (hb hby own_d7_412) (fun T485 h485 S485 J485 (V485 : Arv Z h485 x472 k472 .char (15 : Int32) (List.map Value.int (99::111::112::121::73::110::102::111::114::109::97::116::105::0::0::[])) (.int 0)) => ?_)
  refine hG.st (fun t q => XS.dup S485.here hx rfl (hb hby own_d7_413) rfl rfl (XS.bipush S485.here hx rfl (hb hby own_d7_414) (XS.bipush S485.here hx rfl (hb hby own_d7_416) q))) ?_
  show G T485 (mkF m 418 #[iv 6] [(.int 111), (.int 13), (.ref x472), (.ref x472)])
  refine Own.Sit.stC hG S485 hx V485 ga_x472 ⟨by decide, by decide⟩ 13 rfl (Nat.le_of_ble_eq_true rfl) rfl rfl (hb hby own_d7_418) (fun T486 h486 S486 J486 (V486 : Arv Z h486 x472 k472 .char (15 : Int32) (List.map Value.int (99::111::112::121::73::110::102::111::114::109::97::116::105::111::0::[])) (.int 0)) => ?_)
  refine hG.st (fun t q => XS.dup S486.here hx rfl (hb hby own_d7_419) rfl rfl (XS.bipush S486.here hx rfl (hb hby own_d7_420) (XS.bipush S486.here hx rfl (hb hby own_d7_422) q))) ?_
  show G T486 (mkF m 424 #[iv 6] [(.int 110), (.int 14), (.ref x472), (.ref x472)])
  refine Own.Sit.stC hG S486 hx V486 ga_x472 ⟨by decide, by decide⟩ 14 rfl (Nat.le_of_ble_eq_true rfl) rfl rfl (hb hby own_d7_424) (fun T487 h487 S487 J487 (V487 : Arv Z h487 x472 k472 .char (15 : Int32) (List.map Value.int (99::111::112::121::73::110::102::111::114::109::97::116::105::111::110::[])) (.int 0)) => ?_)
  have J488 : Own.Stp Z consts_1 vm0 h0 vm0 h473 [] := Own.Stp.trans J472 J473 (all0) (allS (Or.inr (Nat.le_of_eq g_x472.symm)) all0)
  have J489 : Own.Stp Z consts_1 vm0 h0 vm0 h474 [] := Own.Stp.trans J488 J474 (all0) (allS (Or.inr (Nat.le_of_eq g_x472.symm)) all0)
  have J490 : Own.Stp Z consts_1 vm0 h0 vm0 h475 [] := Own.Stp.trans J489 J475 (all0) (allS (Or.inr (Nat.le_of_eq g_x472.symm)) all0)
  have J491 : Own.Stp Z consts_1 vm0 h0 vm0 h476 [] := Own.Stp.trans J490 J476 (all0) (allS (Or.inr (Nat.le_of_eq g_x472.symm)) all0)
  have J492 : Own.Stp Z consts_1 vm0 h0 vm0 h477 [] := Own.Stp.trans J491 J477 (all0) (allS (Or.inr (Nat.le_of_eq g_x472.symm)) all0)
  have J493 : Own.Stp Z consts_1 vm0 h0 vm0 h478 [] := Own.Stp.trans J492 J478 (all0) (allS (Or.inr (Nat.le_of_eq g_x472.symm)) all0)
  have J494 : Own.Stp Z consts_1 vm0 h0 vm0 h479 [] := Own.Stp.trans J493 J479 (all0) (allS (Or.inr (Nat.le_of_eq g_x472.symm)) all0)
  have J495 : Own.Stp Z consts_1 vm0 h0 vm0 h480 [] := Own.Stp.trans J494 J480 (all0) (allS (Or.inr (Nat.le_of_eq g_x472.symm)) all0)
  have J496 : Own.Stp Z consts_1 vm0 h0 vm0 h481 [] := Own.Stp.trans J495 J481 (all0) (allS (Or.inr (Nat.le_of_eq g_x472.symm)) all0)
  have J497 : Own.Stp Z consts_1 vm0 h0 vm0 h482 [] := Own.Stp.trans J496 J482 (all0) (allS (Or.inr (Nat.le_of_eq g_x472.symm)) all0)
  have J498 : Own.Stp Z consts_1 vm0 h0 vm0 h483 [] := Own.Stp.trans J497 J483 (all0) (allS (Or.inr (Nat.le_of_eq g_x472.symm)) all0)
  have J499 : Own.Stp Z consts_1 vm0 h0 vm0 h484 [] := Own.Stp.trans J498 J484 (all0) (allS (Or.inr (Nat.le_of_eq g_x472.symm)) all0)
  have J500 : Own.Stp Z consts_1 vm0 h0 vm0 h485 [] := Own.Stp.trans J499 J485 (all0) (allS (Or.inr (Nat.le_of_eq g_x472.symm)) all0)
  have J501 : Own.Stp Z consts_1 vm0 h0 vm0 h486 [] := Own.Stp.trans J500 J486 (all0) (allS (Or.inr (Nat.le_of_eq g_x472.symm)) all0)
  have J502 : Own.Stp Z consts_1 vm0 h0 vm0 h487 [] := Own.Stp.trans J501 J487 (all0) (allS (Or.inr (Nat.le_of_eq g_x472.symm)) all0)
  show G T487 (mkF m 425 #[iv 6] [(.ref x472)])
  exact Own.Sit.retO hR S487 hx hret rfl (Or.inr (Or.inr (Or.inr (Or.inr ⟨rfl, rfl, rfl⟩)))) (hb hby own_d7_425) (by decide) (by decide) ⟨J502.1, x472, _, rfl, (Nat.le_of_eq g_x472.symm), V487⟩
theorem own_d7_426 : decode method_3_code 426 = .ok (.bipush 14, 2) := by decide +kernel
theorem own_d7_428 : decode method_3_code 428 = .ok (.newarray .char, 2) := by decide +kernel
theorem own_d7_430 : decode method_3_code 430 = .ok (.dup, 1) := by decide +kernel
theorem own_d7_431 : decode method_3_code 431 = .ok (.iconst 0, 1) := by decide +kernel
theorem own_d7_432 : decode method_3_code 432 = .ok (.bipush 109, 2) := by decide +kernel
theorem own_d7_434 : decode method_3_code 434 = .ok (.castore, 1) := by decide +kernel
theorem own_d7_435 : decode method_3_code 435 = .ok (.dup, 1) := by decide +kernel
theorem own_d7_436 : decode method_3_code 436 = .ok (.iconst 1, 1) := by decide +kernel
theorem own_d7_437 : decode method_3_code 437 = .ok (.bipush 111, 2) := by decide +kernel
theorem own_d7_439 : decode method_3_code 439 = .ok (.castore, 1) := by decide +kernel
theorem own_d7_440 : decode method_3_code 440 = .ok (.dup, 1) := by decide +kernel
theorem own_d7_441 : decode method_3_code 441 = .ok (.iconst 2, 1) := by decide +kernel
theorem own_d7_442 : decode method_3_code 442 = .ok (.bipush 100, 2) := by decide +kernel
theorem own_d7_444 : decode method_3_code 444 = .ok (.castore, 1) := by decide +kernel
theorem own_d7_445 : decode method_3_code 445 = .ok (.dup, 1) := by decide +kernel
theorem own_d7_446 : decode method_3_code 446 = .ok (.iconst 3, 1) := by decide +kernel
theorem own_d7_447 : decode method_3_code 447 = .ok (.bipush 115, 2) := by decide +kernel
theorem own_d7_449 : decode method_3_code 449 = .ok (.castore, 1) := by decide +kernel
theorem own_d7_450 : decode method_3_code 450 = .ok (.dup, 1) := by decide +kernel
theorem own_d7_451 : decode method_3_code 451 = .ok (.iconst 4, 1) := by decide +kernel
theorem own_d7_452 : decode method_3_code 452 = .ok (.bipush 67, 2) := by decide +kernel
theorem own_d7_454 : decode method_3_code 454 = .ok (.castore, 1) := by decide +kernel
theorem own_d7_455 : decode method_3_code 455 = .ok (.dup, 1) := by decide +kernel
theorem own_d7_456 : decode method_3_code 456 = .ok (.iconst 5, 1) := by decide +kernel
theorem own_d7_457 : decode method_3_code 457 = .ok (.bipush 111, 2) := by decide +kernel
theorem own_d7_459 : decode method_3_code 459 = .ok (.castore, 1) := by decide +kernel
theorem own_d7_460 : decode method_3_code 460 = .ok (.dup, 1) := by decide +kernel
theorem own_d7_461 : decode method_3_code 461 = .ok (.bipush 6, 2) := by decide +kernel
theorem own_d7_463 : decode method_3_code 463 = .ok (.bipush 108, 2) := by decide +kernel
theorem own_d7_465 : decode method_3_code 465 = .ok (.castore, 1) := by decide +kernel
theorem own_d7_466 : decode method_3_code 466 = .ok (.dup, 1) := by decide +kernel
theorem own_d7_467 : decode method_3_code 467 = .ok (.bipush 7, 2) := by decide +kernel
theorem own_d7_469 : decode method_3_code 469 = .ok (.bipush 108, 2) := by decide +kernel
theorem own_d7_471 : decode method_3_code 471 = .ok (.castore, 1) := by decide +kernel
theorem own_d7_472 : decode method_3_code 472 = .ok (.dup, 1) := by decide +kernel
theorem own_d7_473 : decode method_3_code 473 = .ok (.bipush 8, 2) := by decide +kernel
theorem own_d7_475 : decode method_3_code 475 = .ok (.bipush 101, 2) := by decide +kernel
theorem own_d7_477 : decode method_3_code 477 = .ok (.castore, 1) := by decide +kernel
theorem own_d7_478 : decode method_3_code 478 = .ok (.dup, 1) := by decide +kernel
theorem own_d7_479 : decode method_3_code 479 = .ok (.bipush 9, 2) := by decide +kernel
theorem own_d7_481 : decode method_3_code 481 = .ok (.bipush 99, 2) := by decide +kernel
theorem own_d7_483 : decode method_3_code 483 = .ok (.castore, 1) := by decide +kernel
theorem own_d7_484 : decode method_3_code 484 = .ok (.dup, 1) := by decide +kernel
theorem own_d7_485 : decode method_3_code 485 = .ok (.bipush 10, 2) := by decide +kernel
theorem own_d7_487 : decode method_3_code 487 = .ok (.bipush 116, 2) := by decide +kernel
theorem own_d7_489 : decode method_3_code 489 = .ok (.castore, 1) := by decide +kernel
theorem own_d7_490 : decode method_3_code 490 = .ok (.dup, 1) := by decide +kernel
theorem own_d7_491 : decode method_3_code 491 = .ok (.bipush 11, 2) := by decide +kernel
theorem own_d7_493 : decode method_3_code 493 = .ok (.bipush 105, 2) := by decide +kernel
theorem own_d7_495 : decode method_3_code 495 = .ok (.castore, 1) := by decide +kernel
theorem own_d7_496 : decode method_3_code 496 = .ok (.dup, 1) := by decide +kernel
theorem own_d7_497 : decode method_3_code 497 = .ok (.bipush 12, 2) := by decide +kernel
theorem own_d7_499 : decode method_3_code 499 = .ok (.bipush 111, 2) := by decide +kernel
theorem own_d7_501 : decode method_3_code 501 = .ok (.castore, 1) := by decide +kernel
theorem own_d7_502 : decode method_3_code 502 = .ok (.dup, 1) := by decide +kernel
theorem own_d7_503 : decode method_3_code 503 = .ok (.bipush 13, 2) := by decide +kernel
theorem own_d7_505 : decode method_3_code 505 = .ok (.bipush 110, 2) := by decide +kernel
theorem own_d7_507 : decode method_3_code 507 = .ok (.castore, 1) := by decide +kernel
theorem own_d7_508 : decode method_3_code 508 = .ok (.areturn, 1) := by decide +kernel
theorem own_ef_own_nm7 (m : MethodId)  : entryFrame m #[(.int 7)] 1 = mkF m 0 #[iv 7] [] := by first | (simp [entryFrame, mkF, argsToLocals, Value.category]; done) | rfl
set_option maxRecDepth 65536 in
set_option maxHeartbeats 40000000 in
theorem own_nm7 (l : Launch) (Z : State) (a0 : Array Value) (H : own_Wld Z a0) {cw : List Jvm.Cond}  (h0 : Heap) (O0 : Ext Z.heap h0) :
    Own.Con l Z consts_1 (⟨"com/example/scholiast/scholiast/ModsReaderNeedsChildElementPinLaw", "nameChars", "(I)[C"⟩ : MethodName) method_3_code 1 (some (.array .char)) cw ({ frames := 0, cells := 1, slots := 14, locals := 0 } : Room) #[(.int 7)] h0 (fun v h => Keep h0 h [] ∧ ∃ x kc, v = some (.ref x) ∧ h0.size ≤ x ∧ Arv Z h x kc .char (14 : Int32) (own_M7.map Value.int) (.int 0)) := by
  have hw := H.1
  have hW := fun (i : Nat) (w : Jvm.Cond) (e : tables_1[i]? = some w) => hw w (List.mem_of_getElem? e)
  have hCm := H.2.1
  have hSi := H.2.2.1
  have hEL := H.2.2.2
  have hWs : ∀ d ∈ StrChars.Road.words, d.before a0 Z = true := fun d hd => hw d (own_wbackV d hd)
  have hWe : ∀ d ∈ StrChars.Road.wordsEq, d.before a0 Z = true := fun d hd => hw d (own_weqW d hd)
  have hSA : ∀ d ∈ Bundle.stringAtoms, d.before a0 Z = true := fun d hd => hw d (own_wSA d hd)
  refine Own.Con.of own_pn87ea0b hEL O0 ?_
  intro p e s m below meth c T0 G vm0 hx hby hml hret hnm hG hR S0
  have hz : ∀ L : Array Slot, L.size = 1 → L.size = c.maxLocals := fun L q => q.trans hml.symm
  rw [own_ef_own_nm7]
  show G T0 (mkF m 0 #[iv 7] [])
  refine hG.st (fun t q => XS.iloadN S0.here hx rfl (hb hby own_d7_0) rfl (XS.ifYes S0.here hx rfl (pc0 := 1) (pc' := 28) rfl (hb hby own_d7_1) rfl ((if0 _ _).trans (feq (by decide : ¬ ((7 : Int32) = (0 : Int32)))).2) (by decide) (by decide) (XS.iloadN S0.here hx rfl (hb hby own_d7_28) rfl (XS.iconst S0.here hx rfl (hb hby own_d7_29) (XS.icmpYes S0.here hx rfl (pc0 := 30) (pc' := 146) rfl (hb hby own_d7_30) rfl (feq (by decide : ¬ ((7 : Int32) = (1 : Int32)))).2 (by decide) (by decide) (XS.iloadN S0.here hx rfl (hb hby own_d7_146) rfl q)))))) ?_
  show G T0 (mkF m 147 #[iv 7] [(.int 7)])
  refine hG.st (fun t q => XS.iconst S0.here hx rfl (hb hby own_d7_147) (XS.icmpYes S0.here hx rfl (pc0 := 148) (pc' := 198) rfl (hb hby own_d7_148) rfl (feq (by decide : ¬ ((7 : Int32) = (2 : Int32)))).2 (by decide) (by decide) (XS.iloadN S0.here hx rfl (hb hby own_d7_198) rfl (XS.iconst S0.here hx rfl (hb hby own_d7_199) (XS.icmpYes S0.here hx rfl (pc0 := 200) (pc' := 232) rfl (hb hby own_d7_200) rfl (feq (by decide : ¬ ((7 : Int32) = (3 : Int32)))).2 (by decide) (by decide) (XS.iloadN S0.here hx rfl (hb hby own_d7_232) rfl q)))))) ?_
  show G T0 (mkF m 233 #[iv 7] [(.int 7)])
  refine hG.st (fun t q => XS.iconst S0.here hx rfl (hb hby own_d7_233) (XS.icmpYes S0.here hx rfl (pc0 := 234) (pc' := 261) rfl (hb hby own_d7_234) rfl (feq (by decide : ¬ ((7 : Int32) = (4 : Int32)))).2 (by decide) (by decide) (XS.iloadN S0.here hx rfl (hb hby own_d7_261) rfl (XS.iconst S0.here hx rfl (hb hby own_d7_262) (XS.icmpYes S0.here hx rfl (pc0 := 263) (pc' := 331) rfl (hb hby own_d7_263) rfl (feq (by decide : ¬ ((7 : Int32) = (5 : Int32)))).2 (by decide) (by decide) (XS.iloadN S0.here hx rfl (hb hby own_d7_331) rfl q)))))) ?_
  show G T0 (mkF m 332 #[iv 7] [(.int 7)])
  refine hG.st (fun t q => XS.bipush S0.here hx rfl (hb hby own_d7_332) (XS.icmpYes S0.here hx rfl (pc0 := 334) (pc' := 426) rfl (hb hby own_d7_334) rfl (feq (by decide : ¬ ((7 : Int32) = (6 : Int32)))).2 (by decide) (by decide) (XS.bipush S0.here hx rfl (hb hby own_d7_426) q))) ?_
  show G T0 (mkF m 428 #[iv 7] [(.int 14)])
  refine Own.Sit.newP hG S0 hx (aty := .char) (hW 4 _ rfl) rfl (hb hby own_d7_428) rfl (by decide) (cap := 14) (by decide) (by decide) (by decide) (by decide) (fun T503 h503 x503 k503 g_x503 S503 J503 Sf503 (V503 : Arv Z h503 x503 k503 .char (14 : Int32) (List.map Value.int (0::0::0::0::0::0::0::0::0::0::0::0::0::0::[])) (.int 0)) => ?_)
  have lt_x503 := V503.lt
  have ga_x503 : Z.heap.size ≤ x503 := Nat.le_trans S0.le (Nat.le_of_eq g_x503.symm)
  refine hG.st (fun t q => XS.dup S503.here hx rfl (hb hby own_d7_430) rfl rfl (XS.iconst S503.here hx rfl (hb hby own_d7_431) (XS.bipush S503.here hx rfl (hb hby own_d7_432) q))) ?_
  show G T503 (mkF m 434 #[iv 7] [(.int 109), (.int 0), (.ref x503), (.ref x503)])
  refine Own.Sit.stC hG S503 hx V503 ga_x503 ⟨by decide, by decide⟩ 0 rfl (Nat.le_of_ble_eq_true rfl) rfl rfl (hb hby own_d7_434) (fun T504 h504 S504 J504 (V504 : Arv Z h504 x503 k503 .char (14 : Int32) (List.map Value.int (109::0::0::0::0::0::0::0::0::0::0::0::0::0::[])) (.int 0)) => ?_)
  refine hG.st (fun t q => XS.dup S504.here hx rfl (hb hby own_d7_435) rfl rfl (XS.iconst S504.here hx rfl (hb hby own_d7_436) (XS.bipush S504.here hx rfl (hb hby own_d7_437) q))) ?_
  show G T504 (mkF m 439 #[iv 7] [(.int 111), (.int 1), (.ref x503), (.ref x503)])
  refine Own.Sit.stC hG S504 hx V504 ga_x503 ⟨by decide, by decide⟩ 1 rfl (Nat.le_of_ble_eq_true rfl) rfl rfl (hb hby own_d7_439) (fun T505 h505 S505 J505 (V505 : Arv Z h505 x503 k503 .char (14 : Int32) (List.map Value.int (109::111::0::0::0::0::0::0::0::0::0::0::0::0::[])) (.int 0)) => ?_)
  refine hG.st (fun t q => XS.dup S505.here hx rfl (hb hby own_d7_440) rfl rfl (XS.iconst S505.here hx rfl (hb hby own_d7_441) (XS.bipush S505.here hx rfl (hb hby own_d7_442) q))) ?_
  show G T505 (mkF m 444 #[iv 7] [(.int 100), (.int 2), (.ref x503), (.ref x503)])
  refine Own.Sit.stC hG S505 hx V505 ga_x503 ⟨by decide, by decide⟩ 2 rfl (Nat.le_of_ble_eq_true rfl) rfl rfl (hb hby own_d7_444) (fun T506 h506 S506 J506 (V506 : Arv Z h506 x503 k503 .char (14 : Int32) (List.map Value.int (109::111::100::0::0::0::0::0::0::0::0::0::0::0::[])) (.int 0)) => ?_)
  refine hG.st (fun t q => XS.dup S506.here hx rfl (hb hby own_d7_445) rfl rfl (XS.iconst S506.here hx rfl (hb hby own_d7_446) (XS.bipush S506.here hx rfl (hb hby own_d7_447) q))) ?_
  show G T506 (mkF m 449 #[iv 7] [(.int 115), (.int 3), (.ref x503), (.ref x503)])
  refine Own.Sit.stC hG S506 hx V506 ga_x503 ⟨by decide, by decide⟩ 3 rfl (Nat.le_of_ble_eq_true rfl) rfl rfl (hb hby own_d7_449) (fun T507 h507 S507 J507 (V507 : Arv Z h507 x503 k503 .char (14 : Int32) (List.map Value.int (109::111::100::115::0::0::0::0::0::0::0::0::0::0::[])) (.int 0)) => ?_)
  refine hG.st (fun t q => XS.dup S507.here hx rfl (hb hby own_d7_450) rfl rfl (XS.iconst S507.here hx rfl (hb hby own_d7_451) (XS.bipush S507.here hx rfl (hb hby own_d7_452) q))) ?_
  show G T507 (mkF m 454 #[iv 7] [(.int 67), (.int 4), (.ref x503), (.ref x503)])
  refine Own.Sit.stC hG S507 hx V507 ga_x503 ⟨by decide, by decide⟩ 4 rfl (Nat.le_of_ble_eq_true rfl) rfl rfl (hb hby own_d7_454) (fun T508 h508 S508 J508 (V508 : Arv Z h508 x503 k503 .char (14 : Int32) (List.map Value.int (109::111::100::115::67::0::0::0::0::0::0::0::0::0::[])) (.int 0)) => ?_)
  refine hG.st (fun t q => XS.dup S508.here hx rfl (hb hby own_d7_455) rfl rfl (XS.iconst S508.here hx rfl (hb hby own_d7_456) (XS.bipush S508.here hx rfl (hb hby own_d7_457) q))) ?_
  show G T508 (mkF m 459 #[iv 7] [(.int 111), (.int 5), (.ref x503), (.ref x503)])
  refine Own.Sit.stC hG S508 hx V508 ga_x503 ⟨by decide, by decide⟩ 5 rfl (Nat.le_of_ble_eq_true rfl) rfl rfl (hb hby own_d7_459) (fun T509 h509 S509 J509 (V509 : Arv Z h509 x503 k503 .char (14 : Int32) (List.map Value.int (109::111::100::115::67::111::0::0::0::0::0::0::0::0::[])) (.int 0)) => ?_)
  refine hG.st (fun t q => XS.dup S509.here hx rfl (hb hby own_d7_460) rfl rfl (XS.bipush S509.here hx rfl (hb hby own_d7_461) (XS.bipush S509.here hx rfl (hb hby own_d7_463) q))) ?_
  show G T509 (mkF m 465 #[iv 7] [(.int 108), (.int 6), (.ref x503), (.ref x503)])
  refine Own.Sit.stC hG S509 hx V509 ga_x503 ⟨by decide, by decide⟩ 6 rfl (Nat.le_of_ble_eq_true rfl) rfl rfl (hb hby own_d7_465) (fun T510 h510 S510 J510 (V510 : Arv Z h510 x503 k503 .char (14 : Int32) (List.map Value.int (109::111::100::115::67::111::108::0::0::0::0::0::0::0::[])) (.int 0)) => ?_)
  refine hG.st (fun t q => XS.dup S510.here hx rfl (hb hby own_d7_466) rfl rfl (XS.bipush S510.here hx rfl (hb hby own_d7_467) (XS.bipush S510.here hx rfl (hb hby own_d7_469) q))) ?_
  show G T510 (mkF m 471 #[iv 7] [(.int 108), (.int 7), (.ref x503), (.ref x503)])
  refine Own.Sit.stC hG S510 hx V510 ga_x503 ⟨by decide, by decide⟩ 7 rfl (Nat.le_of_ble_eq_true rfl) rfl rfl (hb hby own_d7_471) (fun T511 h511 S511 J511 (V511 : Arv Z h511 x503 k503 .char (14 : Int32) (List.map Value.int (109::111::100::115::67::111::108::108::0::0::0::0::0::0::[])) (.int 0)) => ?_)
  refine hG.st (fun t q => XS.dup S511.here hx rfl (hb hby own_d7_472) rfl rfl (XS.bipush S511.here hx rfl (hb hby own_d7_473) (XS.bipush S511.here hx rfl (hb hby own_d7_475) q))) ?_
  show G T511 (mkF m 477 #[iv 7] [(.int 101), (.int 8), (.ref x503), (.ref x503)])
  refine Own.Sit.stC hG S511 hx V511 ga_x503 ⟨by decide, by decide⟩ 8 rfl (Nat.le_of_ble_eq_true rfl) rfl rfl (hb hby own_d7_477) (fun T512 h512 S512 J512 (V512 : Arv Z h512 x503 k503 .char (14 : Int32) (List.map Value.int (109::111::100::115::67::111::108::108::101::0::0::0::0::0::[])) (.int 0)) => ?_)
  refine hG.st (fun t q => XS.dup S512.here hx rfl (hb hby own_d7_478) rfl rfl (XS.bipush S512.here hx rfl (hb hby own_d7_479) (XS.bipush S512.here hx rfl (hb hby own_d7_481) q))) ?_
  show G T512 (mkF m 483 #[iv 7] [(.int 99), (.int 9), (.ref x503), (.ref x503)])
  refine Own.Sit.stC hG S512 hx V512 ga_x503 ⟨by decide, by decide⟩ 9 rfl (Nat.le_of_ble_eq_true rfl) rfl rfl (hb hby own_d7_483) (fun T513 h513 S513 J513 (V513 : Arv Z h513 x503 k503 .char (14 : Int32) (List.map Value.int (109::111::100::115::67::111::108::108::101::99::0::0::0::0::[])) (.int 0)) => ?_)
  refine hG.st (fun t q => XS.dup S513.here hx rfl (hb hby own_d7_484) rfl rfl (XS.bipush S513.here hx rfl (hb hby own_d7_485) (XS.bipush S513.here hx rfl (hb hby own_d7_487) q))) ?_
  show G T513 (mkF m 489 #[iv 7] [(.int 116), (.int 10), (.ref x503), (.ref x503)])
  refine Own.Sit.stC hG S513 hx V513 ga_x503 ⟨by decide, by decide⟩ 10 rfl (Nat.le_of_ble_eq_true rfl) rfl rfl (hb hby own_d7_489) (fun T514 h514 S514 J514 (V514 : Arv Z h514 x503 k503 .char (14 : Int32) (List.map Value.int (109::111::100::115::67::111::108::108::101::99::116::0::0::0::[])) (.int 0)) => ?_)
  refine hG.st (fun t q => XS.dup S514.here hx rfl (hb hby own_d7_490) rfl rfl (XS.bipush S514.here hx rfl (hb hby own_d7_491) (XS.bipush S514.here hx rfl (hb hby own_d7_493) q))) ?_
  show G T514 (mkF m 495 #[iv 7] [(.int 105), (.int 11), (.ref x503), (.ref x503)])
  refine Own.Sit.stC hG S514 hx V514 ga_x503 ⟨by decide, by decide⟩ 11 rfl (Nat.le_of_ble_eq_true rfl) rfl rfl (hb hby own_d7_495) (fun T515 h515 S515 J515 (V515 : Arv Z h515 x503 k503 .char (14 : Int32) (List.map Value.int (109::111::100::115::67::111::108::108::101::99::116::105::0::0::[])) (.int 0)) => ?_)
  refine hG.st (fun t q => XS.dup S515.here hx rfl (hb hby own_d7_496) rfl rfl (XS.bipush S515.here hx rfl (hb hby own_d7_497) (XS.bipush S515.here hx rfl (hb hby own_d7_499) q))) ?_
  show G T515 (mkF m 501 #[iv 7] [(.int 111), (.int 12), (.ref x503), (.ref x503)])
  refine Own.Sit.stC hG S515 hx V515 ga_x503 ⟨by decide, by decide⟩ 12 rfl (Nat.le_of_ble_eq_true rfl) rfl rfl (hb hby own_d7_501) (fun T516 h516 S516 J516 (V516 : Arv Z h516 x503 k503 .char (14 : Int32) (List.map Value.int (109::111::100::115::67::111::108::108::101::99::116::105::111::0::[])) (.int 0)) => ?_)
  refine hG.st (fun t q => XS.dup S516.here hx rfl (hb hby own_d7_502) rfl rfl (XS.bipush S516.here hx rfl (hb hby own_d7_503) (XS.bipush S516.here hx rfl (hb hby own_d7_505) q))) ?_
  show G T516 (mkF m 507 #[iv 7] [(.int 110), (.int 13), (.ref x503), (.ref x503)])
  refine Own.Sit.stC hG S516 hx V516 ga_x503 ⟨by decide, by decide⟩ 13 rfl (Nat.le_of_ble_eq_true rfl) rfl rfl (hb hby own_d7_507) (fun T517 h517 S517 J517 (V517 : Arv Z h517 x503 k503 .char (14 : Int32) (List.map Value.int (109::111::100::115::67::111::108::108::101::99::116::105::111::110::[])) (.int 0)) => ?_)
  have J518 : Own.Stp Z consts_1 vm0 h0 vm0 h504 [] := Own.Stp.trans J503 J504 (all0) (allS (Or.inr (Nat.le_of_eq g_x503.symm)) all0)
  have J519 : Own.Stp Z consts_1 vm0 h0 vm0 h505 [] := Own.Stp.trans J518 J505 (all0) (allS (Or.inr (Nat.le_of_eq g_x503.symm)) all0)
  have J520 : Own.Stp Z consts_1 vm0 h0 vm0 h506 [] := Own.Stp.trans J519 J506 (all0) (allS (Or.inr (Nat.le_of_eq g_x503.symm)) all0)
  have J521 : Own.Stp Z consts_1 vm0 h0 vm0 h507 [] := Own.Stp.trans J520 J507 (all0) (allS (Or.inr (Nat.le_of_eq g_x503.symm)) all0)
  have J522 : Own.Stp Z consts_1 vm0 h0 vm0 h508 [] := Own.Stp.trans J521 J508 (all0) (allS (Or.inr (Nat.le_of_eq g_x503.symm)) all0)
  have J523 : Own.Stp Z consts_1 vm0 h0 vm0 h509 [] := Own.Stp.trans J522 J509 (all0) (allS (Or.inr (Nat.le_of_eq g_x503.symm)) all0)
  have J524 : Own.Stp Z consts_1 vm0 h0 vm0 h510 [] := Own.Stp.trans J523 J510 (all0) (allS (Or.inr (Nat.le_of_eq g_x503.symm)) all0)
  have J525 : Own.Stp Z consts_1 vm0 h0 vm0 h511 [] := Own.Stp.trans J524 J511 (all0) (allS (Or.inr (Nat.le_of_eq g_x503.symm)) all0)
  have J526 : Own.Stp Z consts_1 vm0 h0 vm0 h512 [] := Own.Stp.trans J525 J512 (all0) (allS (Or.inr (Nat.le_of_eq g_x503.symm)) all0)
  have J527 : Own.Stp Z consts_1 vm0 h0 vm0 h513 [] := Own.Stp.trans J526 J513 (all0) (allS (Or.inr (Nat.le_of_eq g_x503.symm)) all0)
  have J528 : Own.Stp Z consts_1 vm0 h0 vm0 h514 [] := Own.Stp.trans J527 J514 (all0) (allS (Or.inr (Nat.le_of_eq g_x503.symm)) all0)
  have J529 : Own.Stp Z consts_1 vm0 h0 vm0 h515 [] := Own.Stp.trans J528 J515 (all0) (allS (Or.inr (Nat.le_of_eq g_x503.symm)) all0)
  have J530 : Own.Stp Z consts_1 vm0 h0 vm0 h516 [] := Own.Stp.trans J529 J516 (all0) (allS (Or.inr (Nat.le_of_eq g_x503.symm)) all0)
  have J531 : Own.Stp Z consts_1 vm0 h0 vm0 h517 [] := Own.Stp.trans J530 J517 (all0) (allS (Or.inr (Nat.le_of_eq g_x503.symm)) all0)
  show G T517 (mkF m 508 #[iv 7] [(.ref x503)])
  exact Own.Sit.retO hR S517 hx hret rfl (Or.inr (Or.inr (Or.inr (Or.inr ⟨rfl, rfl, rfl⟩)))) (hb hby own_d7_508) (by decide) (by decide) ⟨J531.1, x503, _, rfl, (Nat.le_of_eq g_x503.symm), V517⟩
theorem own_pn370dd9 : plainFor (⟨"com/example/scholiast/scholiast/ModsReader", "needsChildElement", "(Ljava/lang/String;Ljava/lang/String;)Z"⟩ : MethodName) = true := by first | exact plainFor_of_name (by first | (simp [plainName, overriddenIn]; done) | decide +kernel) | decide +kernel
theorem own_d8_0 : decode prog_22_method_4_code 0 = .ok (.ldc 79, 2) := by decide +kernel
theorem own_d8_2 : decode prog_22_method_4_code 2 = .ok (.aload_n 0, 1) := by decide +kernel
theorem own_d8_3 : decode prog_22_method_4_code 3 = .ok (.invokevirtual 81, 3) := by decide +kernel
theorem own_d8_6 : decode prog_22_method_4_code 6 = .ok (.ifCond .eq 27, 3) := by decide +kernel
theorem own_d8_9 : decode prog_22_method_4_code 9 = .ok (.ldc 87, 2) := by decide +kernel
theorem own_d8_11 : decode prog_22_method_4_code 11 = .ok (.aload_n 1, 1) := by decide +kernel
theorem own_d8_12 : decode prog_22_method_4_code 12 = .ok (.invokevirtual 81, 3) := by decide +kernel
theorem own_d8_15 : decode prog_22_method_4_code 15 = .ok (.ifCond .ne 12, 3) := by decide +kernel
theorem own_d8_18 : decode prog_22_method_4_code 18 = .ok (.ldc 89, 2) := by decide +kernel
theorem own_d8_20 : decode prog_22_method_4_code 20 = .ok (.aload_n 1, 1) := by decide +kernel
theorem own_d8_21 : decode prog_22_method_4_code 21 = .ok (.invokevirtual 81, 3) := by decide +kernel
theorem own_d8_24 : decode prog_22_method_4_code 24 = .ok (.ifCond .eq 7, 3) := by decide +kernel
theorem own_d8_27 : decode prog_22_method_4_code 27 = .ok (.iconst 1, 1) := by decide +kernel
theorem own_d8_28 : decode prog_22_method_4_code 28 = .ok (.goto 4, 3) := by decide +kernel
theorem own_d8_31 : decode prog_22_method_4_code 31 = .ok (.iconst 0, 1) := by decide +kernel
theorem own_d8_32 : decode prog_22_method_4_code 32 = .ok (.ireturn, 1) := by decide +kernel
theorem own_d8_33 : decode prog_22_method_4_code 33 = .ok (.ldc 91, 2) := by decide +kernel
theorem own_d8_35 : decode prog_22_method_4_code 35 = .ok (.aload_n 0, 1) := by decide +kernel
theorem own_d8_36 : decode prog_22_method_4_code 36 = .ok (.invokevirtual 81, 3) := by decide +kernel
theorem own_d8_39 : decode prog_22_method_4_code 39 = .ok (.ifCond .eq 25, 3) := by decide +kernel
theorem own_d8_42 : decode prog_22_method_4_code 42 = .ok (.ldc 93, 2) := by decide +kernel
theorem own_d8_44 : decode prog_22_method_4_code 44 = .ok (.aload_n 1, 1) := by decide +kernel
theorem own_d8_45 : decode prog_22_method_4_code 45 = .ok (.invokevirtual 81, 3) := by decide +kernel
theorem own_d8_48 : decode prog_22_method_4_code 48 = .ok (.ifCond .ne 12, 3) := by decide +kernel
theorem own_d8_51 : decode prog_22_method_4_code 51 = .ok (.ldc 95, 2) := by decide +kernel
theorem own_d8_53 : decode prog_22_method_4_code 53 = .ok (.aload_n 1, 1) := by decide +kernel
theorem own_d8_54 : decode prog_22_method_4_code 54 = .ok (.invokevirtual 81, 3) := by decide +kernel
theorem own_d8_57 : decode prog_22_method_4_code 57 = .ok (.ifCond .eq 7, 3) := by decide +kernel
theorem own_d8_60 : decode prog_22_method_4_code 60 = .ok (.iconst 1, 1) := by decide +kernel
theorem own_d8_61 : decode prog_22_method_4_code 61 = .ok (.goto 4, 3) := by decide +kernel
theorem own_d8_64 : decode prog_22_method_4_code 64 = .ok (.iconst 0, 1) := by decide +kernel
theorem own_d8_65 : decode prog_22_method_4_code 65 = .ok (.ireturn, 1) := by decide +kernel
theorem own_ef_own_needs (m : MethodId) (x : Addr) (y : Addr) : entryFrame m #[(.ref x), (.ref y)] 2 = mkF m 0 #[rv x, rv y] [] := by first | (simp [entryFrame, mkF, argsToLocals, Value.category]; done) | rfl
set_option maxRecDepth 65536 in
set_option maxHeartbeats 40000000 in
theorem own_needs (l : Launch) (Z : State) (a0 : Array Value) (H : own_Wld Z a0) {cw : List Jvm.Cond} (x : Addr) (y : Addr) (tx ty : Addr) (cs ds : List Int32) (h0 : Heap) (O0 : Ext Z.heap h0) (St_x : Own.Str Z h0 x tx cs) (St_y : Own.Str Z h0 y ty ds) :
    Own.Con l Z consts_1 (⟨"com/example/scholiast/scholiast/ModsReader", "needsChildElement", "(Ljava/lang/String;Ljava/lang/String;)Z"⟩ : MethodName) prog_22_method_4_code 2 (some .boolean) cw ({ frames := 2, cells := 8, slots := 316, locals := 28 } : Room) #[(.ref x), (.ref y)] h0 (fun v h => Keep h0 h [] ∧ ∃ c : Int32, v = some (.int c) ∧ ((c = 1 ∧ ((own_L0 = cs ∧ (own_M0 = ds ∨ own_M1 = ds)) ∨ (own_L1 = cs ∧ (own_M2 = ds ∨ own_M3 = ds)))) ∨ (c = 0 ∧ ¬ ((own_L0 = cs ∧ (own_M0 = ds ∨ own_M1 = ds)) ∨ (own_L1 = cs ∧ (own_M2 = ds ∨ own_M3 = ds)))))) := by
  have hw := H.1
  have hW := fun (i : Nat) (w : Jvm.Cond) (e : tables_1[i]? = some w) => hw w (List.mem_of_getElem? e)
  have hCm := H.2.1
  have hSi := H.2.2.1
  have hEL := H.2.2.2
  have hWs : ∀ d ∈ StrChars.Road.words, d.before a0 Z = true := fun d hd => hw d (own_wbackV d hd)
  have hWe : ∀ d ∈ StrChars.Road.wordsEq, d.before a0 Z = true := fun d hd => hw d (own_weqW d hd)
  have hSA : ∀ d ∈ Bundle.stringAtoms, d.before a0 Z = true := fun d hd => hw d (own_wSA d hd)
  refine Own.Con.of own_pn370dd9 hEL O0 ?_
  intro p e s m below meth c T0 G vm0 hx hby hml hret hnm hG hR S0
  have hz : ∀ L : Array Slot, L.size = 2 → L.size = c.maxLocals := fun L q => q.trans hml.symm
  rw [own_ef_own_needs]
  show G T0 (mkF m 0 #[rv x, rv y] [])
  refine Own.Sit.ldc hG S0 hx hEL (hW 42 _ rfl) hSA (by decide) (cs := ([104, 116, 116, 112, 58, 47, 47, 119, 119, 119, 46, 108, 111, 99, 46, 103, 111, 118, 47, 109, 111, 100, 115, 47, 118, 51] : List Int32)) ⟨by decide, by decide⟩ (by decide) (by decide) rfl (hb hby own_d8_0) (nn := 104) (by decide) (by decide) (by decide) (by decide) (fun vm532 T532 h532 x532 y532 S532 J532 St532 L532 => ?_)
  refine hG.st (fun t q => XS.aloadN S532.here hx rfl (hb hby own_d8_2) rfl rfl q) ?_
  show G T532 (mkF m 3 #[rv x, rv y] [(.ref x), (.ref x532)])
  have St533 := J532.str St_x nin0 nin0
  refine Own.Sit.strEq hG S532 hx hWe hCm (hW 7 _ rfl) (hW 45 _ rfl) (hW 46 _ rfl) (hW 48 _ rfl) (hW 47 _ rfl) St532 St533 rfl (hz _ rfl) (rest := []) rfl (W := 0) (Own.hw0 rfl rfl) (hb hby own_d8_3) (by decide) (by decide) (by decide) (by decide) (fun T534 S534 => ?_)
  show G T534 (mkF m 6 #[rv x, rv y] [(.int (if ([104, 116, 116, 112, 58, 47, 47, 119, 119, 119, 46, 108, 111, 99, 46, 103, 111, 118, 47, 109, 111, 100, 115, 47, 118, 51] : List Int32) = cs then 1 else 0))])
  by_cases he535 : ([104, 116, 116, 112, 58, 47, 47, 119, 119, 119, 46, 108, 111, 99, 46, 103, 111, 118, 47, 109, 111, 100, 115, 47, 118, 51] : List Int32) = cs
  ·
    refine hG.st (fun t q => XS.ifNo S534.here hx rfl (hb hby own_d8_6) rfl ((if0 _ _).trans (feq (by rw [if_pos he535]; decide : ¬ ((if ([104, 116, 116, 112, 58, 47, 47, 119, 119, 119, 46, 108, 111, 99, 46, 103, 111, 118, 47, 109, 111, 100, 115, 47, 118, 51] : List Int32) = cs then 1 else 0) = (0 : Int32)))).1) q) ?_
    show G T534 (mkF m 9 #[rv x, rv y] [])
    refine Own.Sit.ldc hG S534 hx hEL (hW 55 _ rfl) hSA (by decide) (cs := ([109, 111, 100, 115] : List Int32)) ⟨by decide, by decide⟩ (by decide) (by decide) rfl (hb hby own_d8_9) (nn := 16) (by decide) (by decide) (by decide) (by decide) (fun vm536 T536 h536 x536 y536 S536 J536 St536 L536 => ?_)
    refine hG.st (fun t q => XS.aloadN S536.here hx rfl (hb hby own_d8_11) rfl rfl q) ?_
    show G T536 (mkF m 12 #[rv x, rv y] [(.ref y), (.ref x536)])
    have J537 : Own.Stp Z consts_1 vm0 h0 vm536 h536 [] := Own.Stp.trans J532 J536 (all0) all0
    have St538 := J537.str St_y nin0 nin0
    refine Own.Sit.strEq hG S536 hx hWe hCm (hW 7 _ rfl) (hW 45 _ rfl) (hW 46 _ rfl) (hW 48 _ rfl) (hW 47 _ rfl) St536 St538 rfl (hz _ rfl) (rest := []) rfl (W := 0) (Own.hw0 rfl rfl) (hb hby own_d8_12) (by decide) (by decide) (by decide) (by decide) (fun T539 S539 => ?_)
    show G T539 (mkF m 15 #[rv x, rv y] [(.int (if ([109, 111, 100, 115] : List Int32) = ds then 1 else 0))])
    by_cases he540 : ([109, 111, 100, 115] : List Int32) = ds
    ·
      refine hG.st (fun t q => XS.ifYes S539.here hx rfl (pc0 := 15) (pc' := 27) rfl (hb hby own_d8_15) rfl ((if0 _ _).trans (feq (by rw [if_pos he540]; decide : ¬ ((if ([109, 111, 100, 115] : List Int32) = ds then 1 else 0) = (0 : Int32)))).2) (by decide) (by decide) (XS.iconst S539.here hx rfl (hb hby own_d8_27) (XS.goto S539.here hx rfl (pc0 := 28) (pc' := 32) rfl (hb hby own_d8_28) (by decide) (by decide) q))) ?_
      show G T539 (mkF m 32 #[rv x, rv y] [(.int 1)])
      exact Own.Sit.retN hR S539 hx (t := .boolean) hret (by simp) (hb hby own_d8_32) (by decide) (by decide) ⟨J537.1, 1, rfl, Or.inl ⟨rfl, Or.inl ⟨he535, Or.inl he540⟩⟩⟩
    ·
      refine hG.st (fun t q => XS.ifNo S539.here hx rfl (hb hby own_d8_15) rfl ((if0 _ _).trans (teq (by rw [if_neg he540] : (if ([109, 111, 100, 115] : List Int32) = ds then 1 else 0) = (0 : Int32))).2) q) ?_
      show G T539 (mkF m 18 #[rv x, rv y] [])
      refine Own.Sit.ldc hG S539 hx hEL (hW 56 _ rfl) hSA (by decide) (cs := ([112, 104, 121, 115, 105, 99, 97, 108, 68, 101, 115, 99, 114, 105, 112, 116, 105, 111, 110] : List Int32)) ⟨by decide, by decide⟩ (by decide) (by decide) rfl (hb hby own_d8_18) (nn := 76) (by decide) (by decide) (by decide) (by decide) (fun vm541 T541 h541 x541 y541 S541 J541 St541 L541 => ?_)
      refine hG.st (fun t q => XS.aloadN S541.here hx rfl (hb hby own_d8_20) rfl rfl q) ?_
      show G T541 (mkF m 21 #[rv x, rv y] [(.ref y), (.ref x541)])
      have St542 := J541.str St538 nin0 nin0
      refine Own.Sit.strEq hG S541 hx hWe hCm (hW 7 _ rfl) (hW 45 _ rfl) (hW 46 _ rfl) (hW 48 _ rfl) (hW 47 _ rfl) St541 St542 rfl (hz _ rfl) (rest := []) rfl (W := 0) (Own.hw0 rfl rfl) (hb hby own_d8_21) (by decide) (by decide) (by decide) (by decide) (fun T543 S543 => ?_)
      show G T543 (mkF m 24 #[rv x, rv y] [(.int (if ([112, 104, 121, 115, 105, 99, 97, 108, 68, 101, 115, 99, 114, 105, 112, 116, 105, 111, 110] : List Int32) = ds then 1 else 0))])
      by_cases he544 : ([112, 104, 121, 115, 105, 99, 97, 108, 68, 101, 115, 99, 114, 105, 112, 116, 105, 111, 110] : List Int32) = ds
      ·
        refine hG.st (fun t q => XS.ifNo S543.here hx rfl (hb hby own_d8_24) rfl ((if0 _ _).trans (feq (by rw [if_pos he544]; decide : ¬ ((if ([112, 104, 121, 115, 105, 99, 97, 108, 68, 101, 115, 99, 114, 105, 112, 116, 105, 111, 110] : List Int32) = ds then 1 else 0) = (0 : Int32)))).1) (XS.iconst S543.here hx rfl (hb hby own_d8_27) (XS.goto S543.here hx rfl (pc0 := 28) (pc' := 32) rfl (hb hby own_d8_28) (by decide) (by decide) q))) ?_
        show G T543 (mkF m 32 #[rv x, rv y] [(.int 1)])
        have J545 : Own.Stp Z consts_1 vm0 h0 vm541 h541 [] := Own.Stp.trans J537 J541 (all0) all0
        exact Own.Sit.retN hR S543 hx (t := .boolean) hret (by simp) (hb hby own_d8_32) (by decide) (by decide) ⟨J545.1, 1, rfl, Or.inl ⟨rfl, Or.inl ⟨he535, Or.inr he544⟩⟩⟩
      ·
        refine hG.st (fun t q => XS.ifYes S543.here hx rfl (pc0 := 24) (pc' := 31) rfl (hb hby own_d8_24) rfl ((if0 _ _).trans (teq (by rw [if_neg he544] : (if ([112, 104, 121, 115, 105, 99, 97, 108, 68, 101, 115, 99, 114, 105, 112, 116, 105, 111, 110] : List Int32) = ds then 1 else 0) = (0 : Int32))).1) (by decide) (by decide) (XS.iconst S543.here hx rfl (hb hby own_d8_31) q)) ?_
        show G T543 (mkF m 32 #[rv x, rv y] [(.int 0)])
        have J546 : Own.Stp Z consts_1 vm0 h0 vm541 h541 [] := Own.Stp.trans J537 J541 (all0) all0
        exact Own.Sit.retN hR S543 hx (t := .boolean) hret (by simp) (hb hby own_d8_32) (by decide) (by decide) ⟨J546.1, 0, rfl, Or.inr ⟨rfl, fun q => q.elim (fun u => u.2.elim he540 he544) (fun u => absurd (he535.trans u.1.symm) (by decide))⟩⟩
  ·
    refine hG.st (fun t q => XS.ifYes S534.here hx rfl (pc0 := 6) (pc' := 33) rfl (hb hby own_d8_6) rfl ((if0 _ _).trans (teq (by rw [if_neg he535] : (if ([104, 116, 116, 112, 58, 47, 47, 119, 119, 119, 46, 108, 111, 99, 46, 103, 111, 118, 47, 109, 111, 100, 115, 47, 118, 51] : List Int32) = cs then 1 else 0) = (0 : Int32))).1) (by decide) (by decide) q) ?_
    show G T534 (mkF m 33 #[rv x, rv y] [])
    refine Own.Sit.ldc hG S534 hx hEL (hW 57 _ rfl) hSA (by decide) (cs := ((104 :: 116 :: 116 :: 112 :: 58 :: 47 :: 47 :: 119 :: 119 :: 119 :: 46 :: 111 :: 112 :: 101 :: 110 :: 97 :: 114 :: 99 :: 104 :: 105 :: 118 :: 101 :: 115 :: 46 :: 111 :: 114 :: 103 :: 47 :: 79 :: 65 :: 73 :: 47 :: 50 :: 46 :: 48 :: 47 :: []) : List Int32)) ⟨by decide, by decide⟩ (by decide) (by decide) rfl (hb hby own_d8_33) (nn := 144) (by decide) (by decide) (by decide) (by decide) (fun vm547 T547 h547 x547 y547 S547 J547 St547 L547 => ?_)
    refine hG.st (fun t q => XS.aloadN S547.here hx rfl (hb hby own_d8_35) rfl rfl q) ?_
    show G T547 (mkF m 36 #[rv x, rv y] [(.ref x), (.ref x547)])
    have St548 := J547.str St533 nin0 nin0
    refine Own.Sit.strEq hG S547 hx hWe hCm (hW 7 _ rfl) (hW 45 _ rfl) (hW 46 _ rfl) (hW 48 _ rfl) (hW 47 _ rfl) St547 St548 rfl (hz _ rfl) (rest := []) rfl (W := 0) (Own.hw0 rfl rfl) (hb hby own_d8_36) (by decide) (by decide) (by decide) (by decide) (fun T549 S549 => ?_)
    show G T549 (mkF m 39 #[rv x, rv y] [(.int (if ((104 :: 116 :: 116 :: 112 :: 58 :: 47 :: 47 :: 119 :: 119 :: 119 :: 46 :: 111 :: 112 :: 101 :: 110 :: 97 :: 114 :: 99 :: 104 :: 105 :: 118 :: 101 :: 115 :: 46 :: 111 :: 114 :: 103 :: 47 :: 79 :: 65 :: 73 :: 47 :: 50 :: 46 :: 48 :: 47 :: []) : List Int32) = cs then 1 else 0))])
    by_cases he550 : ((104 :: 116 :: 116 :: 112 :: 58 :: 47 :: 47 :: 119 :: 119 :: 119 :: 46 :: 111 :: 112 :: 101 :: 110 :: 97 :: 114 :: 99 :: 104 :: 105 :: 118 :: 101 :: 115 :: 46 :: 111 :: 114 :: 103 :: 47 :: 79 :: 65 :: 73 :: 47 :: 50 :: 46 :: 48 :: 47 :: []) : List Int32) = cs
    ·
      refine hG.st (fun t q => XS.ifNo S549.here hx rfl (hb hby own_d8_39) rfl ((if0 _ _).trans (feq (by rw [if_pos he550]; decide : ¬ ((if ((104 :: 116 :: 116 :: 112 :: 58 :: 47 :: 47 :: 119 :: 119 :: 119 :: 46 :: 111 :: 112 :: 101 :: 110 :: 97 :: 114 :: 99 :: 104 :: 105 :: 118 :: 101 :: 115 :: 46 :: 111 :: 114 :: 103 :: 47 :: 79 :: 65 :: 73 :: 47 :: 50 :: 46 :: 48 :: 47 :: []) : List Int32) = cs then 1 else 0) = (0 : Int32)))).1) q) ?_
      show G T549 (mkF m 42 #[rv x, rv y] [])
      refine Own.Sit.ldc hG S549 hx hEL (hW 58 _ rfl) hSA (by decide) (cs := ([109, 101, 116, 97, 100, 97, 116, 97] : List Int32)) ⟨by decide, by decide⟩ (by decide) (by decide) rfl (hb hby own_d8_42) (nn := 32) (by decide) (by decide) (by decide) (by decide) (fun vm551 T551 h551 x551 y551 S551 J551 St551 L551 => ?_)
      refine hG.st (fun t q => XS.aloadN S551.here hx rfl (hb hby own_d8_44) rfl rfl q) ?_
      show G T551 (mkF m 45 #[rv x, rv y] [(.ref y), (.ref x551)])
      have J552 : Own.Stp Z consts_1 vm0 h0 vm547 h547 [] := Own.Stp.trans J532 J547 (all0) all0
      have J553 : Own.Stp Z consts_1 vm0 h0 vm551 h551 [] := Own.Stp.trans J552 J551 (all0) all0
      have St554 := J553.str St_y nin0 nin0
      refine Own.Sit.strEq hG S551 hx hWe hCm (hW 7 _ rfl) (hW 45 _ rfl) (hW 46 _ rfl) (hW 48 _ rfl) (hW 47 _ rfl) St551 St554 rfl (hz _ rfl) (rest := []) rfl (W := 0) (Own.hw0 rfl rfl) (hb hby own_d8_45) (by decide) (by decide) (by decide) (by decide) (fun T555 S555 => ?_)
      show G T555 (mkF m 48 #[rv x, rv y] [(.int (if ([109, 101, 116, 97, 100, 97, 116, 97] : List Int32) = ds then 1 else 0))])
      by_cases he556 : ([109, 101, 116, 97, 100, 97, 116, 97] : List Int32) = ds
      ·
        refine hG.st (fun t q => XS.ifYes S555.here hx rfl (pc0 := 48) (pc' := 60) rfl (hb hby own_d8_48) rfl ((if0 _ _).trans (feq (by rw [if_pos he556]; decide : ¬ ((if ([109, 101, 116, 97, 100, 97, 116, 97] : List Int32) = ds then 1 else 0) = (0 : Int32)))).2) (by decide) (by decide) (XS.iconst S555.here hx rfl (hb hby own_d8_60) (XS.goto S555.here hx rfl (pc0 := 61) (pc' := 65) rfl (hb hby own_d8_61) (by decide) (by decide) q))) ?_
        show G T555 (mkF m 65 #[rv x, rv y] [(.int 1)])
        exact Own.Sit.retN hR S555 hx (t := .boolean) hret (by simp) (hb hby own_d8_65) (by decide) (by decide) ⟨J553.1, 1, rfl, Or.inl ⟨rfl, Or.inr ⟨he550, Or.inl he556⟩⟩⟩
      ·
        refine hG.st (fun t q => XS.ifNo S555.here hx rfl (hb hby own_d8_48) rfl ((if0 _ _).trans (teq (by rw [if_neg he556] : (if ([109, 101, 116, 97, 100, 97, 116, 97] : List Int32) = ds then 1 else 0) = (0 : Int32))).2) q) ?_
        show G T555 (mkF m 51 #[rv x, rv y] [])
        refine Own.Sit.ldc hG S555 hx hEL (hW 60 _ rfl) hSA (by decide) (cs := ([97, 98, 111, 117, 116] : List Int32)) ⟨by decide, by decide⟩ (by decide) (by decide) rfl (hb hby own_d8_51) (nn := 20) (by decide) (by decide) (by decide) (by decide) (fun vm557 T557 h557 x557 y557 S557 J557 St557 L557 => ?_)
        refine hG.st (fun t q => XS.aloadN S557.here hx rfl (hb hby own_d8_53) rfl rfl q) ?_
        show G T557 (mkF m 54 #[rv x, rv y] [(.ref y), (.ref x557)])
        have St558 := J557.str St554 nin0 nin0
        refine Own.Sit.strEq hG S557 hx hWe hCm (hW 7 _ rfl) (hW 45 _ rfl) (hW 46 _ rfl) (hW 48 _ rfl) (hW 47 _ rfl) St557 St558 rfl (hz _ rfl) (rest := []) rfl (W := 0) (Own.hw0 rfl rfl) (hb hby own_d8_54) (by decide) (by decide) (by decide) (by decide) (fun T559 S559 => ?_)
        show G T559 (mkF m 57 #[rv x, rv y] [(.int (if ([97, 98, 111, 117, 116] : List Int32) = ds then 1 else 0))])
        by_cases he560 : ([97, 98, 111, 117, 116] : List Int32) = ds
        ·
          refine hG.st (fun t q => XS.ifNo S559.here hx rfl (hb hby own_d8_57) rfl ((if0 _ _).trans (feq (by rw [if_pos he560]; decide : ¬ ((if ([97, 98, 111, 117, 116] : List Int32) = ds then 1 else 0) = (0 : Int32)))).1) (XS.iconst S559.here hx rfl (hb hby own_d8_60) (XS.goto S559.here hx rfl (pc0 := 61) (pc' := 65) rfl (hb hby own_d8_61) (by decide) (by decide) q))) ?_
          show G T559 (mkF m 65 #[rv x, rv y] [(.int 1)])
          have J561 : Own.Stp Z consts_1 vm0 h0 vm557 h557 [] := Own.Stp.trans J553 J557 (all0) all0
          exact Own.Sit.retN hR S559 hx (t := .boolean) hret (by simp) (hb hby own_d8_65) (by decide) (by decide) ⟨J561.1, 1, rfl, Or.inl ⟨rfl, Or.inr ⟨he550, Or.inr he560⟩⟩⟩
        ·
          refine hG.st (fun t q => XS.ifYes S559.here hx rfl (pc0 := 57) (pc' := 64) rfl (hb hby own_d8_57) rfl ((if0 _ _).trans (teq (by rw [if_neg he560] : (if ([97, 98, 111, 117, 116] : List Int32) = ds then 1 else 0) = (0 : Int32))).1) (by decide) (by decide) (XS.iconst S559.here hx rfl (hb hby own_d8_64) q)) ?_
          show G T559 (mkF m 65 #[rv x, rv y] [(.int 0)])
          have J562 : Own.Stp Z consts_1 vm0 h0 vm557 h557 [] := Own.Stp.trans J553 J557 (all0) all0
          exact Own.Sit.retN hR S559 hx (t := .boolean) hret (by simp) (hb hby own_d8_65) (by decide) (by decide) ⟨J562.1, 0, rfl, Or.inr ⟨rfl, fun q => q.elim (fun u => he535 u.1) (fun u => u.2.elim he556 he560)⟩⟩
    ·
      refine hG.st (fun t q => XS.ifYes S549.here hx rfl (pc0 := 39) (pc' := 64) rfl (hb hby own_d8_39) rfl ((if0 _ _).trans (teq (by rw [if_neg he550] : (if ((104 :: 116 :: 116 :: 112 :: 58 :: 47 :: 47 :: 119 :: 119 :: 119 :: 46 :: 111 :: 112 :: 101 :: 110 :: 97 :: 114 :: 99 :: 104 :: 105 :: 118 :: 101 :: 115 :: 46 :: 111 :: 114 :: 103 :: 47 :: 79 :: 65 :: 73 :: 47 :: 50 :: 46 :: 48 :: 47 :: []) : List Int32) = cs then 1 else 0) = (0 : Int32))).1) (by decide) (by decide) (XS.iconst S549.here hx rfl (hb hby own_d8_64) q)) ?_
      show G T549 (mkF m 65 #[rv x, rv y] [(.int 0)])
      have J563 : Own.Stp Z consts_1 vm0 h0 vm547 h547 [] := Own.Stp.trans J532 J547 (all0) all0
      exact Own.Sit.retN hR S549 hx (t := .boolean) hret (by simp) (hb hby own_d8_65) (by decide) (by decide) ⟨J563.1, 0, rfl, Or.inr ⟨rfl, fun q => q.elim (fun u => he535 u.1) (fun u => he550 u.1)⟩⟩
theorem own_pnf7e918 : plainFor x = true := by first | exact plainFor_of_name (by first | (simp [plainName, overriddenIn]; done) | decide +kernel) | decide +kernel
theorem own_pdd2c627 : parseMethodDescriptor "(Ljava/lang/String;Ljava/lang/String;)Z" = some ⟨[(.object "java/lang/String"), (.object "java/lang/String")], some .boolean⟩ := by decide +kernel
theorem own_pd864215 : parseMethodDescriptor "(I)[C" = some ⟨[.int], some (.array .char)⟩ := by decide +kernel
theorem own_os604 {z0 : Value} {z1 : Value} {z2 : Value} {z3 : Value} {z4 : Value} {z5 : Value} {z6 : Value} {z7 : Value} {z8 : Value} {z9 : Value} {z10 : Value} {z11 : Value} {z12 : Value} {z13 : Value} {z14 : Value} {s15 : Slot} {s16 : Slot} {v : Addr} (h : One s15) : storeLocals #[.val z0, .val z1, .val z2, .val z3, .val z4, .val z5, .val z6, .val z7, .val z8, .val z9, .val z10, .val z11, .val z12, .val z13, .val z14, s15, s16, .unset, .unset, .unset, .unset] 15 (.ref v) = some #[.val z0, .val z1, .val z2, .val z3, .val z4, .val z5, .val z6, .val z7, .val z8, .val z9, .val z10, .val z11, .val z12, .val z13, .val z14, .val (.ref v), s16, .unset, .unset, .unset, .unset] := by
  rcases h with rfl | ⟨w, rfl, hw⟩
  · rfl
  · cases w <;> first | rfl | (simp [Value.category] at hw)
theorem own_os605 {z0 : Value} {z1 : Value} {z2 : Value} {z3 : Value} {z4 : Value} {z5 : Value} {z6 : Value} {z7 : Value} {z8 : Value} {z9 : Value} {z10 : Value} {z11 : Value} {z12 : Value} {z13 : Value} {z14 : Value} {z15 : Value} {s16 : Slot} {v : Int32} (h : One s16) : storeLocals #[.val z0, .val z1, .val z2, .val z3, .val z4, .val z5, .val z6, .val z7, .val z8, .val z9, .val z10, .val z11, .val z12, .val z13, .val z14, .val z15, s16, .unset, .unset, .unset, .unset] 16 (.int v) = some #[.val z0, .val z1, .val z2, .val z3, .val z4, .val z5, .val z6, .val z7, .val z8, .val z9, .val z10, .val z11, .val z12, .val z13, .val z14, .val z15, .val (.int v), .unset, .unset, .unset, .unset] := by
  rcases h with rfl | ⟨w, rfl, hw⟩
  · rfl
  · cases w <;> first | rfl | (simp [Value.category] at hw)
theorem own_os640 {z0 : Value} {z1 : Value} {z2 : Value} {z3 : Value} {z4 : Value} {z5 : Value} {z6 : Value} {z7 : Value} {z8 : Value} {z9 : Value} {z10 : Value} {z11 : Value} {z12 : Value} {z13 : Value} {z14 : Value} {s15 : Slot} {s16 : Slot} {v : Addr} (h : One s15) : storeLocals #[.val z0, .val z1, .val z2, .val z3, .val z4, .val z5, .val z6, .val z7, .val z8, .val z9, .val z10, .val z11, .val z12, .val z13, .val z14, s15, s16, .unset, .unset, .unset, .unset] 15 (.ref v) = some #[.val z0, .val z1, .val z2, .val z3, .val z4, .val z5, .val z6, .val z7, .val z8, .val z9, .val z10, .val z11, .val z12, .val z13, .val z14, .val (.ref v), s16, .unset, .unset, .unset, .unset] := by
  rcases h with rfl | ⟨w, rfl, hw⟩
  · rfl
  · cases w <;> first | rfl | (simp [Value.category] at hw)
theorem own_os641 {z0 : Value} {z1 : Value} {z2 : Value} {z3 : Value} {z4 : Value} {z5 : Value} {z6 : Value} {z7 : Value} {z8 : Value} {z9 : Value} {z10 : Value} {z11 : Value} {z12 : Value} {z13 : Value} {z14 : Value} {z15 : Value} {s16 : Slot} {v : Int32} (h : One s16) : storeLocals #[.val z0, .val z1, .val z2, .val z3, .val z4, .val z5, .val z6, .val z7, .val z8, .val z9, .val z10, .val z11, .val z12, .val z13, .val z14, .val z15, s16, .unset, .unset, .unset, .unset] 16 (.int v) = some #[.val z0, .val z1, .val z2, .val z3, .val z4, .val z5, .val z6, .val z7, .val z8, .val z9, .val z10, .val z11, .val z12, .val z13, .val z14, .val z15, .val (.int v), .unset, .unset, .unset, .unset] := by
  rcases h with rfl | ⟨w, rfl, hw⟩
  · rfl
  · cases w <;> first | rfl | (simp [Value.category] at hw)
theorem own_os676 {z0 : Value} {z1 : Value} {z2 : Value} {z3 : Value} {z4 : Value} {z5 : Value} {z6 : Value} {z7 : Value} {z8 : Value} {z9 : Value} {z10 : Value} {z11 : Value} {z12 : Value} {z13 : Value} {z14 : Value} {s15 : Slot} {s16 : Slot} {v : Addr} (h : One s15) : storeLocals #[.val z0, .val z1, .val z2, .val z3, .val z4, .val z5, .val z6, .val z7, .val z8, .val z9, .val z10, .val z11, .val z12, .val z13, .val z14, s15, s16, .unset, .unset, .unset, .unset] 15 (.ref v) = some #[.val z0, .val z1, .val z2, .val z3, .val z4, .val z5, .val z6, .val z7, .val z8, .val z9, .val z10, .val z11, .val z12, .val z13, .val z14, .val (.ref v), s16, .unset, .unset, .unset, .unset] := by
  rcases h with rfl | ⟨w, rfl, hw⟩
  · rfl
  · cases w <;> first | rfl | (simp [Value.category] at hw)
theorem own_os677 {z0 : Value} {z1 : Value} {z2 : Value} {z3 : Value} {z4 : Value} {z5 : Value} {z6 : Value} {z7 : Value} {z8 : Value} {z9 : Value} {z10 : Value} {z11 : Value} {z12 : Value} {z13 : Value} {z14 : Value} {z15 : Value} {s16 : Slot} {v : Int32} (h : One s16) : storeLocals #[.val z0, .val z1, .val z2, .val z3, .val z4, .val z5, .val z6, .val z7, .val z8, .val z9, .val z10, .val z11, .val z12, .val z13, .val z14, .val z15, s16, .unset, .unset, .unset, .unset] 16 (.int v) = some #[.val z0, .val z1, .val z2, .val z3, .val z4, .val z5, .val z6, .val z7, .val z8, .val z9, .val z10, .val z11, .val z12, .val z13, .val z14, .val z15, .val (.int v), .unset, .unset, .unset, .unset] := by
  rcases h with rfl | ⟨w, rfl, hw⟩
  · rfl
  · cases w <;> first | rfl | (simp [Value.category] at hw)
theorem own_os712 {z0 : Value} {z1 : Value} {z2 : Value} {z3 : Value} {z4 : Value} {z5 : Value} {z6 : Value} {z7 : Value} {z8 : Value} {z9 : Value} {z10 : Value} {z11 : Value} {z12 : Value} {z13 : Value} {z14 : Value} {s15 : Slot} {s16 : Slot} {v : Addr} (h : One s15) : storeLocals #[.val z0, .val z1, .val z2, .val z3, .val z4, .val z5, .val z6, .val z7, .val z8, .val z9, .val z10, .val z11, .val z12, .val z13, .val z14, s15, s16, .unset, .unset, .unset, .unset] 15 (.ref v) = some #[.val z0, .val z1, .val z2, .val z3, .val z4, .val z5, .val z6, .val z7, .val z8, .val z9, .val z10, .val z11, .val z12, .val z13, .val z14, .val (.ref v), s16, .unset, .unset, .unset, .unset] := by
  rcases h with rfl | ⟨w, rfl, hw⟩
  · rfl
  · cases w <;> first | rfl | (simp [Value.category] at hw)
theorem own_os713 {z0 : Value} {z1 : Value} {z2 : Value} {z3 : Value} {z4 : Value} {z5 : Value} {z6 : Value} {z7 : Value} {z8 : Value} {z9 : Value} {z10 : Value} {z11 : Value} {z12 : Value} {z13 : Value} {z14 : Value} {z15 : Value} {s16 : Slot} {v : Int32} (h : One s16) : storeLocals #[.val z0, .val z1, .val z2, .val z3, .val z4, .val z5, .val z6, .val z7, .val z8, .val z9, .val z10, .val z11, .val z12, .val z13, .val z14, .val z15, s16, .unset, .unset, .unset, .unset] 16 (.int v) = some #[.val z0, .val z1, .val z2, .val z3, .val z4, .val z5, .val z6, .val z7, .val z8, .val z9, .val z10, .val z11, .val z12, .val z13, .val z14, .val z15, .val (.int v), .unset, .unset, .unset, .unset] := by
  rcases h with rfl | ⟨w, rfl, hw⟩
  · rfl
  · cases w <;> first | rfl | (simp [Value.category] at hw)
theorem own_os748 {z0 : Value} {z1 : Value} {z2 : Value} {z3 : Value} {z4 : Value} {z5 : Value} {z6 : Value} {z7 : Value} {z8 : Value} {z9 : Value} {z10 : Value} {z11 : Value} {z12 : Value} {z13 : Value} {z14 : Value} {s15 : Slot} {s16 : Slot} {v : Addr} (h : One s15) : storeLocals #[.val z0, .val z1, .val z2, .val z3, .val z4, .val z5, .val z6, .val z7, .val z8, .val z9, .val z10, .val z11, .val z12, .val z13, .val z14, s15, s16, .unset, .unset, .unset, .unset] 15 (.ref v) = some #[.val z0, .val z1, .val z2, .val z3, .val z4, .val z5, .val z6, .val z7, .val z8, .val z9, .val z10, .val z11, .val z12, .val z13, .val z14, .val (.ref v), s16, .unset, .unset, .unset, .unset] := by
  rcases h with rfl | ⟨w, rfl, hw⟩
  · rfl
  · cases w <;> first | rfl | (simp [Value.category] at hw)
theorem own_os749 {z0 : Value} {z1 : Value} {z2 : Value} {z3 : Value} {z4 : Value} {z5 : Value} {z6 : Value} {z7 : Value} {z8 : Value} {z9 : Value} {z10 : Value} {z11 : Value} {z12 : Value} {z13 : Value} {z14 : Value} {z15 : Value} {s16 : Slot} {v : Int32} (h : One s16) : storeLocals #[.val z0, .val z1, .val z2, .val z3, .val z4, .val z5, .val z6, .val z7, .val z8, .val z9, .val z10, .val z11, .val z12, .val z13, .val z14, .val z15, s16, .unset, .unset, .unset, .unset] 16 (.int v) = some #[.val z0, .val z1, .val z2, .val z3, .val z4, .val z5, .val z6, .val z7, .val z8, .val z9, .val z10, .val z11, .val z12, .val z13, .val z14, .val z15, .val (.int v), .unset, .unset, .unset, .unset] := by
  rcases h with rfl | ⟨w, rfl, hw⟩
  · rfl
  · cases w <;> first | rfl | (simp [Value.category] at hw)
theorem own_os784 {z0 : Value} {z1 : Value} {z2 : Value} {z3 : Value} {z4 : Value} {z5 : Value} {z6 : Value} {z7 : Value} {z8 : Value} {z9 : Value} {z10 : Value} {z11 : Value} {z12 : Value} {z13 : Value} {z14 : Value} {s15 : Slot} {s16 : Slot} {v : Addr} (h : One s15) : storeLocals #[.val z0, .val z1, .val z2, .val z3, .val z4, .val z5, .val z6, .val z7, .val z8, .val z9, .val z10, .val z11, .val z12, .val z13, .val z14, s15, s16, .unset, .unset, .unset, .unset] 15 (.ref v) = some #[.val z0, .val z1, .val z2, .val z3, .val z4, .val z5, .val z6, .val z7, .val z8, .val z9, .val z10, .val z11, .val z12, .val z13, .val z14, .val (.ref v), s16, .unset, .unset, .unset, .unset] := by
  rcases h with rfl | ⟨w, rfl, hw⟩
  · rfl
  · cases w <;> first | rfl | (simp [Value.category] at hw)
theorem own_os785 {z0 : Value} {z1 : Value} {z2 : Value} {z3 : Value} {z4 : Value} {z5 : Value} {z6 : Value} {z7 : Value} {z8 : Value} {z9 : Value} {z10 : Value} {z11 : Value} {z12 : Value} {z13 : Value} {z14 : Value} {z15 : Value} {s16 : Slot} {v : Int32} (h : One s16) : storeLocals #[.val z0, .val z1, .val z2, .val z3, .val z4, .val z5, .val z6, .val z7, .val z8, .val z9, .val z10, .val z11, .val z12, .val z13, .val z14, .val z15, s16, .unset, .unset, .unset, .unset] 16 (.int v) = some #[.val z0, .val z1, .val z2, .val z3, .val z4, .val z5, .val z6, .val z7, .val z8, .val z9, .val z10, .val z11, .val z12, .val z13, .val z14, .val z15, .val (.int v), .unset, .unset, .unset, .unset] := by
  rcases h with rfl | ⟨w, rfl, hw⟩
  · rfl
  · cases w <;> first | rfl | (simp [Value.category] at hw)
theorem own_os820 {z0 : Value} {z1 : Value} {z2 : Value} {z3 : Value} {z4 : Value} {z5 : Value} {z6 : Value} {z7 : Value} {z8 : Value} {z9 : Value} {z10 : Value} {z11 : Value} {z12 : Value} {z13 : Value} {z14 : Value} {s15 : Slot} {s16 : Slot} {v : Addr} (h : One s15) : storeLocals #[.val z0, .val z1, .val z2, .val z3, .val z4, .val z5, .val z6, .val z7, .val z8, .val z9, .val z10, .val z11, .val z12, .val z13, .val z14, s15, s16, .unset, .unset, .unset, .unset] 15 (.ref v) = some #[.val z0, .val z1, .val z2, .val z3, .val z4, .val z5, .val z6, .val z7, .val z8, .val z9, .val z10, .val z11, .val z12, .val z13, .val z14, .val (.ref v), s16, .unset, .unset, .unset, .unset] := by
  rcases h with rfl | ⟨w, rfl, hw⟩
  · rfl
  · cases w <;> first | rfl | (simp [Value.category] at hw)
theorem own_os821 {z0 : Value} {z1 : Value} {z2 : Value} {z3 : Value} {z4 : Value} {z5 : Value} {z6 : Value} {z7 : Value} {z8 : Value} {z9 : Value} {z10 : Value} {z11 : Value} {z12 : Value} {z13 : Value} {z14 : Value} {z15 : Value} {s16 : Slot} {v : Int32} (h : One s16) : storeLocals #[.val z0, .val z1, .val z2, .val z3, .val z4, .val z5, .val z6, .val z7, .val z8, .val z9, .val z10, .val z11, .val z12, .val z13, .val z14, .val z15, s16, .unset, .unset, .unset, .unset] 16 (.int v) = some #[.val z0, .val z1, .val z2, .val z3, .val z4, .val z5, .val z6, .val z7, .val z8, .val z9, .val z10, .val z11, .val z12, .val z13, .val z14, .val z15, .val (.int v), .unset, .unset, .unset, .unset] := by
  rcases h with rfl | ⟨w, rfl, hw⟩
  · rfl
  · cases w <;> first | rfl | (simp [Value.category] at hw)
theorem own_os856 {z0 : Value} {z1 : Value} {z2 : Value} {z3 : Value} {z4 : Value} {z5 : Value} {z6 : Value} {z7 : Value} {z8 : Value} {z9 : Value} {z10 : Value} {z11 : Value} {z12 : Value} {z13 : Value} {z14 : Value} {s15 : Slot} {s16 : Slot} {v : Addr} (h : One s15) : storeLocals #[.val z0, .val z1, .val z2, .val z3, .val z4, .val z5, .val z6, .val z7, .val z8, .val z9, .val z10, .val z11, .val z12, .val z13, .val z14, s15, s16, .unset, .unset, .unset, .unset] 15 (.ref v) = some #[.val z0, .val z1, .val z2, .val z3, .val z4, .val z5, .val z6, .val z7, .val z8, .val z9, .val z10, .val z11, .val z12, .val z13, .val z14, .val (.ref v), s16, .unset, .unset, .unset, .unset] := by
  rcases h with rfl | ⟨w, rfl, hw⟩
  · rfl
  · cases w <;> first | rfl | (simp [Value.category] at hw)
theorem own_os857 {z0 : Value} {z1 : Value} {z2 : Value} {z3 : Value} {z4 : Value} {z5 : Value} {z6 : Value} {z7 : Value} {z8 : Value} {z9 : Value} {z10 : Value} {z11 : Value} {z12 : Value} {z13 : Value} {z14 : Value} {z15 : Value} {s16 : Slot} {v : Int32} (h : One s16) : storeLocals #[.val z0, .val z1, .val z2, .val z3, .val z4, .val z5, .val z6, .val z7, .val z8, .val z9, .val z10, .val z11, .val z12, .val z13, .val z14, .val z15, s16, .unset, .unset, .unset, .unset] 16 (.int v) = some #[.val z0, .val z1, .val z2, .val z3, .val z4, .val z5, .val z6, .val z7, .val z8, .val z9, .val z10, .val z11, .val z12, .val z13, .val z14, .val z15, .val (.int v), .unset, .unset, .unset, .unset] := by
  rcases h with rfl | ⟨w, rfl, hw⟩
  · rfl
  · cases w <;> first | rfl | (simp [Value.category] at hw)
theorem own_pd827e25 : parseMethodDescriptor "([C)V" = some ⟨[(.array .char)], none⟩ := by decide +kernel
theorem own_pdabaf74 : parseMethodDescriptor "(C)Ljava/lang/String;" = some ⟨[.char], some (.object "java/lang/String")⟩ := by decide +kernel
theorem own_ef_own_law (m : MethodId) (q0 : Int32) (q1 : Int32) (q2 : Int32) (q3 : Int32) (q4 : Int32) (q5 : Int32) : entryFrame m #[(.int q0), (.int q1), (.int q2), (.int q3), (.int q4), (.int q5)] maxLocals = mkF m 0 #[iv q0, iv q1, iv q2, iv q3, iv q4, iv q5, .unset, .unset, .unset, .unset, .unset, .unset, .unset, .unset, .unset, .unset, .unset, .unset, .unset, .unset, .unset] [] := by first | (simp [entryFrame, mkF, argsToLocals, Value.category, maxLocals]; done) | rfl
set_option maxRecDepth 65536 in
set_option maxHeartbeats 40000000 in
theorem own_law (l : Launch) (Z : State) (a0 : Array Value) (H : own_Wld Z a0) {cw : List Jvm.Cond} (q0 : Int32) (q1 : Int32) (q2 : Int32) (q3 : Int32) (q4 : Int32) (q5 : Int32) (h0 : Heap) (O0 : Ext Z.heap h0) :
    Own.Con l Z consts_1 x code maxLocals ret cw room_1 #[(.int q0), (.int q1), (.int q2), (.int q3), (.int q4), (.int q5)] h0 (fun v h => Keep h0 h [] ∧ v = some (.int 1)) := by
  have hw := H.1
  have hW := fun (i : Nat) (w : Jvm.Cond) (e : tables_1[i]? = some w) => hw w (List.mem_of_getElem? e)
  have hCm := H.2.1
  have hSi := H.2.2.1
  have hEL := H.2.2.2
  have hWs : ∀ d ∈ StrChars.Road.words, d.before a0 Z = true := fun d hd => hw d (own_wbackV d hd)
  have hWe : ∀ d ∈ StrChars.Road.wordsEq, d.before a0 Z = true := fun d hd => hw d (own_weqW d hd)
  have hSA : ∀ d ∈ Bundle.stringAtoms, d.before a0 Z = true := fun d hd => hw d (own_wSA d hd)
  refine Own.Con.of own_pnf7e918 hEL O0 ?_
  intro p e s m below meth c T0 G vm0 hx hby hml hret hnm hG hR S0
  have hz : ∀ L : Array Slot, L.size = maxLocals → L.size = c.maxLocals := fun L q => q.trans hml.symm
  rw [own_ef_own_law]
  show G T0 (mkF m 0 #[iv q0, iv q1, iv q2, iv q3, iv q4, iv q5, .unset, .unset, .unset, .unset, .unset, .unset, .unset, .unset, .unset, .unset, .unset, .unset, .unset, .unset, .unset] [])
  have J59 : ∀ (vm564 : Vm) (T564 : State) (h564 : Heap) (mu1 : Int32) (mu2 : Int32), Own.Sit p l e room_1 s m #[(.int q0), (.int q1), (.int q2), (.int q3), (.int q4), (.int q5)] below meth c Z consts_1 "com/example/scholiast/scholiast/ModsReaderNeedsChildElementPinLaw" vm564 T564 h564 0 0 → Own.Stp Z consts_1 vm0 h0 vm564 h564 [] → G T564 (mkF m 59 #[iv q0, iv q1, iv q2, iv q3, iv q4, iv q5, iv (((q0.toUInt32 >>> ((1 : Int32) &&& 31).toUInt32).toInt32) % (6 : Int32)), iv mu1, iv ((q2 &&& (255 : Int32)).toUInt32.toUInt16.toUInt32.toInt32), iv (((q3.toUInt32 >>> ((1 : Int32) &&& 31).toUInt32).toInt32) &&& (7 : Int32)), iv mu2, iv ((q5 &&& (255 : Int32)).toUInt32.toUInt16.toUInt32.toInt32), .unset, .unset, .unset, .unset, .unset, .unset, .unset, .unset, .unset] []) := by
    intro vm564 T564 h564 mu1 mu2 S564 J564 
    show G T564 (mkF m 59 #[iv q0, iv q1, iv q2, iv q3, iv q4, iv q5, iv (((q0.toUInt32 >>> ((1 : Int32) &&& 31).toUInt32).toInt32) % (6 : Int32)), iv mu1, iv ((q2 &&& (255 : Int32)).toUInt32.toUInt16.toUInt32.toInt32), iv (((q3.toUInt32 >>> ((1 : Int32) &&& 31).toUInt32).toInt32) &&& (7 : Int32)), iv mu2, iv ((q5 &&& (255 : Int32)).toUInt32.toUInt16.toUInt32.toInt32), .unset, .unset, .unset, .unset, .unset, .unset, .unset, .unset, .unset] [])
    obtain ⟨cN, ecN⟩ : ∃ z : Int32, z = ((q2 &&& (255 : Int32)).toUInt32.toUInt16.toUInt32.toInt32) := ⟨_, rfl⟩
    rw [← ecN]
    show G T564 (mkF m 59 #[iv q0, iv q1, iv q2, iv q3, iv q4, iv q5, iv (((q0.toUInt32 >>> ((1 : Int32) &&& 31).toUInt32).toInt32) % (6 : Int32)), iv mu1, iv cN, iv (((q3.toUInt32 >>> ((1 : Int32) &&& 31).toUInt32).toInt32) &&& (7 : Int32)), iv mu2, iv ((q5 &&& (255 : Int32)).toUInt32.toUInt16.toUInt32.toInt32), .unset, .unset, .unset, .unset, .unset, .unset, .unset, .unset, .unset] [])
    have rcN : ¬ cN < 0 ∧ ¬ (255 : Int32) < cN := ecN ▸ own_a255 _
    obtain ⟨cM, ecM⟩ : ∃ z : Int32, z = ((q5 &&& (255 : Int32)).toUInt32.toUInt16.toUInt32.toInt32) := ⟨_, rfl⟩
    rw [← ecM]
    show G T564 (mkF m 59 #[iv q0, iv q1, iv q2, iv q3, iv q4, iv q5, iv (((q0.toUInt32 >>> ((1 : Int32) &&& 31).toUInt32).toInt32) % (6 : Int32)), iv mu1, iv cN, iv (((q3.toUInt32 >>> ((1 : Int32) &&& 31).toUInt32).toInt32) &&& (7 : Int32)), iv mu2, iv cM, .unset, .unset, .unset, .unset, .unset, .unset, .unset, .unset, .unset] [])
    have rcM : ¬ cM < 0 ∧ ¬ (255 : Int32) < cM := ecM ▸ own_a255 _
    obtain ⟨k0, ek0⟩ : ∃ z : Int32, z = (((q0.toUInt32 >>> ((1 : Int32) &&& 31).toUInt32).toInt32) % (6 : Int32)) := ⟨_, rfl⟩
    rw [← ek0]
    show G T564 (mkF m 59 #[iv q0, iv q1, iv q2, iv q3, iv q4, iv q5, iv k0, iv mu1, iv cN, iv (((q3.toUInt32 >>> ((1 : Int32) &&& 31).toUInt32).toInt32) &&& (7 : Int32)), iv mu2, iv cM, .unset, .unset, .unset, .unset, .unset, .unset, .unset, .unset, .unset] [])
    obtain ⟨m0, em0⟩ : ∃ z : Int32, z = (((q3.toUInt32 >>> ((1 : Int32) &&& 31).toUInt32).toInt32) &&& (7 : Int32)) := ⟨_, rfl⟩
    rw [← em0]
    show G T564 (mkF m 59 #[iv q0, iv q1, iv q2, iv q3, iv q4, iv q5, iv k0, iv mu1, iv cN, iv m0, iv mu2, iv cM, .unset, .unset, .unset, .unset, .unset, .unset, .unset, .unset, .unset] [])
    have JA : ∀ (vm565 : Vm) (T565 : State) (h565 : Heap) (kk : Int32) (mm : Int32) (b12 : Addr) (xn : Addr) (tn : Addr) (csn : List Int32) (it1 : Int32) (b15 : Addr) (p16 : Int32) (o17 : Int32) (xm : Addr) (tm : Addr) (csm : List Int32) (it2 : Int32), Own.Sit p l e room_1 s m #[(.int q0), (.int q1), (.int q2), (.int q3), (.int q4), (.int q5)] below meth c Z consts_1 "com/example/scholiast/scholiast/ModsReaderNeedsChildElementPinLaw" vm565 T565 h565 32 2000 → Own.Stp Z consts_1 vm564 h564 vm565 h565 [] → Own.Str Z h565 xn tn csn → Own.Str Z h565 xm tm csm → own_Pn kk it1 csn → own_Pm mm it2 csm → G T565 (mkF m 237 #[iv q0, iv q1, iv q2, iv q3, iv q4, iv q5, iv kk, iv mu1, iv cN, iv mm, iv mu2, iv cM, rv b12, rv xn, iv it1, rv b15, iv p16, iv o17, rv xm, iv it2, .unset] []) := by
      intro vm565 T565 h565 kk mm b12 xn tn csn it1 b15 p16 o17 xm tm csm it2 S565 J565 SN SM hPn hPm
      show G T565 (mkF m 237 #[iv q0, iv q1, iv q2, iv q3, iv q4, iv q5, iv kk, iv mu1, iv cN, iv mm, iv mu2, iv cM, rv b12, rv xn, iv it1, rv b15, iv p16, iv o17, rv xm, iv it2, .unset] [])
      refine hG.st (fun t q => XS.iload S565.here hx rfl (hb hby at_237) rfl q) ?_
      show G T565 (mkF m 239 #[iv q0, iv q1, iv q2, iv q3, iv q4, iv q5, iv kk, iv mu1, iv cN, iv mm, iv mu2, iv cM, rv b12, rv xn, iv it1, rv b15, iv p16, iv o17, rv xm, iv it2, .unset] [(.int it1)])
      by_cases hc239 : it1 = (0 : Int32)
      ·
        refine hG.st (fun t q => XS.ifYes S565.here hx rfl (pc0 := 239) (pc' := 285) rfl (hb hby at_239) rfl ((if0 _ _).trans (teq hc239).1) (by decide) (by decide) (XS.iconst S565.here hx rfl (hb hby at_285) (XS.istore S565.here hx rfl (hb hby at_286) rfl (l' := #[iv q0, iv q1, iv q2, iv q3, iv q4, iv q5, iv kk, iv mu1, iv cN, iv mm, iv mu2, iv cM, rv b12, rv xn, iv it1, rv b15, iv p16, iv o17, rv xm, iv it2, iv 0]) rfl (XS.aload S565.here hx rfl (hb hby at_288) rfl rfl (XS.aload S565.here hx rfl (hb hby at_290) rfl rfl q))))) ?_
        show G T565 (mkF m 292 #[iv q0, iv q1, iv q2, iv q3, iv q4, iv q5, iv kk, iv mu1, iv cN, iv mm, iv mu2, iv cM, rv b12, rv xn, iv it1, rv b15, iv p16, iv o17, rv xm, iv it2, iv 0] [(.ref xm), (.ref xn)])
        refine Own.Sit.callS hG S565 hx hEL (as := [(.ref xn), (.ref xm)]) (hW 38 _ rfl) (hW 39 _ rfl) (hW 40 _ rfl) (hW 41 _ rfl) (by decide) (own_needs l Z a0 H xn xm tn tm csn csm h565 S565.old SN SM) own_pdd2c627 rfl rfl (hz _ rfl) (rest := []) rfl (W := 0) (Own.hw0 rfl rfl) (hb hby at_292) (by decide) (by decide) (by decide) (by decide) (fun v566 vm566 T566 h566 S566 C566 q566 => ?_)
        obtain ⟨K566, c566, rfl, qq566⟩ := q566
        have J566 : Own.Stp Z consts_1 vm565 h565 vm566 h566 [] := ⟨K566, C566⟩
        rcases qq566 with ⟨rfl, qa566⟩ | ⟨rfl, qa566⟩
        ·
          exfalso
          obtain ⟨pn0, pn1⟩ := id hPn
          obtain ⟨pm0, pm1, pm2, pm3⟩ := id hPm
          rw [pn0, pn1, pm0, pm1, pm2, pm3] at qa566
          simp_all
        ·
          refine hG.st (fun t q => XS.iload S566.here hx rfl (hb hby at_295) rfl (XS.icmpNo S566.here hx rfl (hb hby at_297) rfl (teq (by decide : (0 : Int32) = (0 : Int32))).2 (XS.iconst S566.here hx rfl (hb hby at_300) (XS.goto S566.here hx rfl (pc0 := 301) (pc' := 305) rfl (hb hby at_301) (by decide) (by decide) q)))) ?_
          show G T566 (mkF m 305 #[iv q0, iv q1, iv q2, iv q3, iv q4, iv q5, iv kk, iv mu1, iv cN, iv mm, iv mu2, iv cM, rv b12, rv xn, iv it1, rv b15, iv p16, iv o17, rv xm, iv it2, iv 0] [(.int 1)])
          have J567 : Own.Stp Z consts_1 vm0 h0 vm565 h565 [] := Own.Stp.trans J564 J565 (all0) all0
          have J568 : Own.Stp Z consts_1 vm0 h0 vm566 h566 [] := Own.Stp.trans J567 J566 (all0) all0
          exact Own.Sit.retN hR S566 hx (t := .boolean) hret (by simp) (hb hby at_305) (by decide) (by decide) ⟨J568.1, rfl⟩
      ·
        refine hG.st (fun t q => XS.ifNo S565.here hx rfl (hb hby at_239) rfl ((if0 _ _).trans (feq hc239).1) (XS.iload S565.here hx rfl (hb hby at_242) rfl q)) ?_
        show G T565 (mkF m 244 #[iv q0, iv q1, iv q2, iv q3, iv q4, iv q5, iv kk, iv mu1, iv cN, iv mm, iv mu2, iv cM, rv b12, rv xn, iv it1, rv b15, iv p16, iv o17, rv xm, iv it2, .unset] [(.int it2)])
        by_cases hc244 : it2 = (0 : Int32)
        ·
          refine hG.st (fun t q => XS.ifYes S565.here hx rfl (pc0 := 244) (pc' := 285) rfl (hb hby at_244) rfl ((if0 _ _).trans (teq hc244).1) (by decide) (by decide) (XS.iconst S565.here hx rfl (hb hby at_285) (XS.istore S565.here hx rfl (hb hby at_286) rfl (l' := #[iv q0, iv q1, iv q2, iv q3, iv q4, iv q5, iv kk, iv mu1, iv cN, iv mm, iv mu2, iv cM, rv b12, rv xn, iv it1, rv b15, iv p16, iv o17, rv xm, iv it2, iv 0]) rfl (XS.aload S565.here hx rfl (hb hby at_288) rfl rfl (XS.aload S565.here hx rfl (hb hby at_290) rfl rfl q))))) ?_
          show G T565 (mkF m 292 #[iv q0, iv q1, iv q2, iv q3, iv q4, iv q5, iv kk, iv mu1, iv cN, iv mm, iv mu2, iv cM, rv b12, rv xn, iv it1, rv b15, iv p16, iv o17, rv xm, iv it2, iv 0] [(.ref xm), (.ref xn)])
          refine Own.Sit.callS hG S565 hx hEL (as := [(.ref xn), (.ref xm)]) (hW 38 _ rfl) (hW 39 _ rfl) (hW 40 _ rfl) (hW 41 _ rfl) (by decide) (own_needs l Z a0 H xn xm tn tm csn csm h565 S565.old SN SM) own_pdd2c627 rfl rfl (hz _ rfl) (rest := []) rfl (W := 0) (Own.hw0 rfl rfl) (hb hby at_292) (by decide) (by decide) (by decide) (by decide) (fun v569 vm569 T569 h569 S569 C569 q569 => ?_)
          obtain ⟨K569, c569, rfl, qq569⟩ := q569
          have J569 : Own.Stp Z consts_1 vm565 h565 vm569 h569 [] := ⟨K569, C569⟩
          rcases qq569 with ⟨rfl, qa569⟩ | ⟨rfl, qa569⟩
          ·
            exfalso
            obtain ⟨pn0, pn1⟩ := id hPn
            obtain ⟨pm0, pm1, pm2, pm3⟩ := id hPm
            rw [pn0, pn1, pm0, pm1, pm2, pm3] at qa569
            simp_all
          ·
            refine hG.st (fun t q => XS.iload S569.here hx rfl (hb hby at_295) rfl (XS.icmpNo S569.here hx rfl (hb hby at_297) rfl (teq (by decide : (0 : Int32) = (0 : Int32))).2 (XS.iconst S569.here hx rfl (hb hby at_300) (XS.goto S569.here hx rfl (pc0 := 301) (pc' := 305) rfl (hb hby at_301) (by decide) (by decide) q)))) ?_
            show G T569 (mkF m 305 #[iv q0, iv q1, iv q2, iv q3, iv q4, iv q5, iv kk, iv mu1, iv cN, iv mm, iv mu2, iv cM, rv b12, rv xn, iv it1, rv b15, iv p16, iv o17, rv xm, iv it2, iv 0] [(.int 1)])
            have J570 : Own.Stp Z consts_1 vm0 h0 vm565 h565 [] := Own.Stp.trans J564 J565 (all0) all0
            have J571 : Own.Stp Z consts_1 vm0 h0 vm569 h569 [] := Own.Stp.trans J570 J569 (all0) all0
            exact Own.Sit.retN hR S569 hx (t := .boolean) hret (by simp) (hb hby at_305) (by decide) (by decide) ⟨J571.1, rfl⟩
        ·
          refine hG.st (fun t q => XS.ifNo S565.here hx rfl (hb hby at_244) rfl ((if0 _ _).trans (feq hc244).1) (XS.iload S565.here hx rfl (hb hby at_247) rfl q)) ?_
          show G T565 (mkF m 249 #[iv q0, iv q1, iv q2, iv q3, iv q4, iv q5, iv kk, iv mu1, iv cN, iv mm, iv mu2, iv cM, rv b12, rv xn, iv it1, rv b15, iv p16, iv o17, rv xm, iv it2, .unset] [(.int kk)])
          by_cases hc249 : kk = (0 : Int32)
          ·
            refine hG.st (fun t q => XS.ifNo S565.here hx rfl (hb hby at_249) rfl ((if0 _ _).trans (teq hc249).2) (XS.iload S565.here hx rfl (hb hby at_252) rfl q)) ?_
            show G T565 (mkF m 254 #[iv q0, iv q1, iv q2, iv q3, iv q4, iv q5, iv kk, iv mu1, iv cN, iv mm, iv mu2, iv cM, rv b12, rv xn, iv it1, rv b15, iv p16, iv o17, rv xm, iv it2, .unset] [(.int mm)])
            by_cases hc254 : mm = (0 : Int32)
            ·
              refine hG.st (fun t q => XS.ifYes S565.here hx rfl (pc0 := 254) (pc' := 281) rfl (hb hby at_254) rfl ((if0 _ _).trans (teq hc254).1) (by decide) (by decide) (XS.iconst S565.here hx rfl (hb hby at_281) (XS.goto S565.here hx rfl (pc0 := 282) (pc' := 286) rfl (hb hby at_282) (by decide) (by decide) (XS.istore S565.here hx rfl (hb hby at_286) rfl (l' := #[iv q0, iv q1, iv q2, iv q3, iv q4, iv q5, iv kk, iv mu1, iv cN, iv mm, iv mu2, iv cM, rv b12, rv xn, iv it1, rv b15, iv p16, iv o17, rv xm, iv it2, iv 1]) rfl (XS.aload S565.here hx rfl (hb hby at_288) rfl rfl (XS.aload S565.here hx rfl (hb hby at_290) rfl rfl q)))))) ?_
              show G T565 (mkF m 292 #[iv q0, iv q1, iv q2, iv q3, iv q4, iv q5, iv kk, iv mu1, iv cN, iv mm, iv mu2, iv cM, rv b12, rv xn, iv it1, rv b15, iv p16, iv o17, rv xm, iv it2, iv 1] [(.ref xm), (.ref xn)])
              refine Own.Sit.callS hG S565 hx hEL (as := [(.ref xn), (.ref xm)]) (hW 38 _ rfl) (hW 39 _ rfl) (hW 40 _ rfl) (hW 41 _ rfl) (by decide) (own_needs l Z a0 H xn xm tn tm csn csm h565 S565.old SN SM) own_pdd2c627 rfl rfl (hz _ rfl) (rest := []) rfl (W := 0) (Own.hw0 rfl rfl) (hb hby at_292) (by decide) (by decide) (by decide) (by decide) (fun v572 vm572 T572 h572 S572 C572 q572 => ?_)
              obtain ⟨K572, c572, rfl, qq572⟩ := q572
              have J572 : Own.Stp Z consts_1 vm565 h565 vm572 h572 [] := ⟨K572, C572⟩
              rcases qq572 with ⟨rfl, qa572⟩ | ⟨rfl, qa572⟩
              ·
                refine hG.st (fun t q => XS.iload S572.here hx rfl (hb hby at_295) rfl (XS.icmpNo S572.here hx rfl (hb hby at_297) rfl (teq (by decide : (1 : Int32) = (1 : Int32))).2 (XS.iconst S572.here hx rfl (hb hby at_300) (XS.goto S572.here hx rfl (pc0 := 301) (pc' := 305) rfl (hb hby at_301) (by decide) (by decide) q)))) ?_
                show G T572 (mkF m 305 #[iv q0, iv q1, iv q2, iv q3, iv q4, iv q5, iv kk, iv mu1, iv cN, iv mm, iv mu2, iv cM, rv b12, rv xn, iv it1, rv b15, iv p16, iv o17, rv xm, iv it2, iv 1] [(.int 1)])
                have J573 : Own.Stp Z consts_1 vm0 h0 vm565 h565 [] := Own.Stp.trans J564 J565 (all0) all0
                have J574 : Own.Stp Z consts_1 vm0 h0 vm572 h572 [] := Own.Stp.trans J573 J572 (all0) all0
                exact Own.Sit.retN hR S572 hx (t := .boolean) hret (by simp) (hb hby at_305) (by decide) (by decide) ⟨J574.1, rfl⟩
              ·
                exfalso
                obtain ⟨pn0, pn1⟩ := id hPn
                obtain ⟨pm0, pm1, pm2, pm3⟩ := id hPm
                rw [pn0, pn1, pm0, pm1, pm2, pm3] at qa572
                simp_all
            ·
              refine hG.st (fun t q => XS.ifNo S565.here hx rfl (hb hby at_254) rfl ((if0 _ _).trans (feq hc254).1) (XS.iload S565.here hx rfl (hb hby at_257) rfl (XS.iconst S565.here hx rfl (hb hby at_259) q))) ?_
              show G T565 (mkF m 260 #[iv q0, iv q1, iv q2, iv q3, iv q4, iv q5, iv kk, iv mu1, iv cN, iv mm, iv mu2, iv cM, rv b12, rv xn, iv it1, rv b15, iv p16, iv o17, rv xm, iv it2, .unset] [(.int 1), (.int mm)])
              by_cases hc260 : mm = (1 : Int32)
              ·
                refine hG.st (fun t q => XS.icmpYes S565.here hx rfl (pc0 := 260) (pc' := 281) rfl (hb hby at_260) rfl (teq hc260).1 (by decide) (by decide) (XS.iconst S565.here hx rfl (hb hby at_281) (XS.goto S565.here hx rfl (pc0 := 282) (pc' := 286) rfl (hb hby at_282) (by decide) (by decide) (XS.istore S565.here hx rfl (hb hby at_286) rfl (l' := #[iv q0, iv q1, iv q2, iv q3, iv q4, iv q5, iv kk, iv mu1, iv cN, iv mm, iv mu2, iv cM, rv b12, rv xn, iv it1, rv b15, iv p16, iv o17, rv xm, iv it2, iv 1]) rfl (XS.aload S565.here hx rfl (hb hby at_288) rfl rfl (XS.aload S565.here hx rfl (hb hby at_290) rfl rfl q)))))) ?_
                show G T565 (mkF m 292 #[iv q0, iv q1, iv q2, iv q3, iv q4, iv q5, iv kk, iv mu1, iv cN, iv mm, iv mu2, iv cM, rv b12, rv xn, iv it1, rv b15, iv p16, iv o17, rv xm, iv it2, iv 1] [(.ref xm), (.ref xn)])
                refine Own.Sit.callS hG S565 hx hEL (as := [(.ref xn), (.ref xm)]) (hW 38 _ rfl) (hW 39 _ rfl) (hW 40 _ rfl) (hW 41 _ rfl) (by decide) (own_needs l Z a0 H xn xm tn tm csn csm h565 S565.old SN SM) own_pdd2c627 rfl rfl (hz _ rfl) (rest := []) rfl (W := 0) (Own.hw0 rfl rfl) (hb hby at_292) (by decide) (by decide) (by decide) (by decide) (fun v575 vm575 T575 h575 S575 C575 q575 => ?_)
                obtain ⟨K575, c575, rfl, qq575⟩ := q575
                have J575 : Own.Stp Z consts_1 vm565 h565 vm575 h575 [] := ⟨K575, C575⟩
                rcases qq575 with ⟨rfl, qa575⟩ | ⟨rfl, qa575⟩
                ·
                  refine hG.st (fun t q => XS.iload S575.here hx rfl (hb hby at_295) rfl (XS.icmpNo S575.here hx rfl (hb hby at_297) rfl (teq (by decide : (1 : Int32) = (1 : Int32))).2 (XS.iconst S575.here hx rfl (hb hby at_300) (XS.goto S575.here hx rfl (pc0 := 301) (pc' := 305) rfl (hb hby at_301) (by decide) (by decide) q)))) ?_
                  show G T575 (mkF m 305 #[iv q0, iv q1, iv q2, iv q3, iv q4, iv q5, iv kk, iv mu1, iv cN, iv mm, iv mu2, iv cM, rv b12, rv xn, iv it1, rv b15, iv p16, iv o17, rv xm, iv it2, iv 1] [(.int 1)])
                  have J576 : Own.Stp Z consts_1 vm0 h0 vm565 h565 [] := Own.Stp.trans J564 J565 (all0) all0
                  have J577 : Own.Stp Z consts_1 vm0 h0 vm575 h575 [] := Own.Stp.trans J576 J575 (all0) all0
                  exact Own.Sit.retN hR S575 hx (t := .boolean) hret (by simp) (hb hby at_305) (by decide) (by decide) ⟨J577.1, rfl⟩
                ·
                  exfalso
                  obtain ⟨pn0, pn1⟩ := id hPn
                  obtain ⟨pm0, pm1, pm2, pm3⟩ := id hPm
                  rw [pn0, pn1, pm0, pm1, pm2, pm3] at qa575
                  simp_all
              ·
                refine hG.st (fun t q => XS.icmpNo S565.here hx rfl (hb hby at_260) rfl (feq hc260).1 (XS.iload S565.here hx rfl (hb hby at_263) rfl (XS.iconst S565.here hx rfl (hb hby at_265) q))) ?_
                show G T565 (mkF m 266 #[iv q0, iv q1, iv q2, iv q3, iv q4, iv q5, iv kk, iv mu1, iv cN, iv mm, iv mu2, iv cM, rv b12, rv xn, iv it1, rv b15, iv p16, iv o17, rv xm, iv it2, .unset] [(.int 1), (.int kk)])
                by_cases hc266 : kk = (1 : Int32)
                ·
                  refine hG.st (fun t q => XS.icmpNo S565.here hx rfl (hb hby at_266) rfl (teq hc266).2 (XS.iload S565.here hx rfl (hb hby at_269) rfl (XS.iconst S565.here hx rfl (hb hby at_271) q))) ?_
                  show G T565 (mkF m 272 #[iv q0, iv q1, iv q2, iv q3, iv q4, iv q5, iv kk, iv mu1, iv cN, iv mm, iv mu2, iv cM, rv b12, rv xn, iv it1, rv b15, iv p16, iv o17, rv xm, iv it2, .unset] [(.int 2), (.int mm)])
                  by_cases hc272 : mm = (2 : Int32)
                  ·
                    refine hG.st (fun t q => XS.icmpYes S565.here hx rfl (pc0 := 272) (pc' := 281) rfl (hb hby at_272) rfl (teq hc272).1 (by decide) (by decide) (XS.iconst S565.here hx rfl (hb hby at_281) (XS.goto S565.here hx rfl (pc0 := 282) (pc' := 286) rfl (hb hby at_282) (by decide) (by decide) (XS.istore S565.here hx rfl (hb hby at_286) rfl (l' := #[iv q0, iv q1, iv q2, iv q3, iv q4, iv q5, iv kk, iv mu1, iv cN, iv mm, iv mu2, iv cM, rv b12, rv xn, iv it1, rv b15, iv p16, iv o17, rv xm, iv it2, iv 1]) rfl (XS.aload S565.here hx rfl (hb hby at_288) rfl rfl (XS.aload S565.here hx rfl (hb hby at_290) rfl rfl q)))))) ?_
                    show G T565 (mkF m 292 #[iv q0, iv q1, iv q2, iv q3, iv q4, iv q5, iv kk, iv mu1, iv cN, iv mm, iv mu2, iv cM, rv b12, rv xn, iv it1, rv b15, iv p16, iv o17, rv xm, iv it2, iv 1] [(.ref xm), (.ref xn)])
                    refine Own.Sit.callS hG S565 hx hEL (as := [(.ref xn), (.ref xm)]) (hW 38 _ rfl) (hW 39 _ rfl) (hW 40 _ rfl) (hW 41 _ rfl) (by decide) (own_needs l Z a0 H xn xm tn tm csn csm h565 S565.old SN SM) own_pdd2c627 rfl rfl (hz _ rfl) (rest := []) rfl (W := 0) (Own.hw0 rfl rfl) (hb hby at_292) (by decide) (by decide) (by decide) (by decide) (fun v578 vm578 T578 h578 S578 C578 q578 => ?_)
                    obtain ⟨K578, c578, rfl, qq578⟩ := q578
                    have J578 : Own.Stp Z consts_1 vm565 h565 vm578 h578 [] := ⟨K578, C578⟩
                    rcases qq578 with ⟨rfl, qa578⟩ | ⟨rfl, qa578⟩
                    ·
                      refine hG.st (fun t q => XS.iload S578.here hx rfl (hb hby at_295) rfl (XS.icmpNo S578.here hx rfl (hb hby at_297) rfl (teq (by decide : (1 : Int32) = (1 : Int32))).2 (XS.iconst S578.here hx rfl (hb hby at_300) (XS.goto S578.here hx rfl (pc0 := 301) (pc' := 305) rfl (hb hby at_301) (by decide) (by decide) q)))) ?_
                      show G T578 (mkF m 305 #[iv q0, iv q1, iv q2, iv q3, iv q4, iv q5, iv kk, iv mu1, iv cN, iv mm, iv mu2, iv cM, rv b12, rv xn, iv it1, rv b15, iv p16, iv o17, rv xm, iv it2, iv 1] [(.int 1)])
                      have J579 : Own.Stp Z consts_1 vm0 h0 vm565 h565 [] := Own.Stp.trans J564 J565 (all0) all0
                      have J580 : Own.Stp Z consts_1 vm0 h0 vm578 h578 [] := Own.Stp.trans J579 J578 (all0) all0
                      exact Own.Sit.retN hR S578 hx (t := .boolean) hret (by simp) (hb hby at_305) (by decide) (by decide) ⟨J580.1, rfl⟩
                    ·
                      exfalso
                      obtain ⟨pn0, pn1⟩ := id hPn
                      obtain ⟨pm0, pm1, pm2, pm3⟩ := id hPm
                      rw [pn0, pn1, pm0, pm1, pm2, pm3] at qa578
                      simp_all
                  ·
                    refine hG.st (fun t q => XS.icmpNo S565.here hx rfl (hb hby at_272) rfl (feq hc272).1 (XS.iload S565.here hx rfl (hb hby at_275) rfl (XS.iconst S565.here hx rfl (hb hby at_277) q))) ?_
                    show G T565 (mkF m 278 #[iv q0, iv q1, iv q2, iv q3, iv q4, iv q5, iv kk, iv mu1, iv cN, iv mm, iv mu2, iv cM, rv b12, rv xn, iv it1, rv b15, iv p16, iv o17, rv xm, iv it2, .unset] [(.int 3), (.int mm)])
                    by_cases hc278 : mm = (3 : Int32)
                    ·
                      refine hG.st (fun t q => XS.icmpNo S565.here hx rfl (hb hby at_278) rfl (teq hc278).2 (XS.iconst S565.here hx rfl (hb hby at_281) (XS.goto S565.here hx rfl (pc0 := 282) (pc' := 286) rfl (hb hby at_282) (by decide) (by decide) (XS.istore S565.here hx rfl (hb hby at_286) rfl (l' := #[iv q0, iv q1, iv q2, iv q3, iv q4, iv q5, iv kk, iv mu1, iv cN, iv mm, iv mu2, iv cM, rv b12, rv xn, iv it1, rv b15, iv p16, iv o17, rv xm, iv it2, iv 1]) rfl (XS.aload S565.here hx rfl (hb hby at_288) rfl rfl (XS.aload S565.here hx rfl (hb hby at_290) rfl rfl q)))))) ?_
                      show G T565 (mkF m 292 #[iv q0, iv q1, iv q2, iv q3, iv q4, iv q5, iv kk, iv mu1, iv cN, iv mm, iv mu2, iv cM, rv b12, rv xn, iv it1, rv b15, iv p16, iv o17, rv xm, iv it2, iv 1] [(.ref xm), (.ref xn)])
                      refine Own.Sit.callS hG S565 hx hEL (as := [(.ref xn), (.ref xm)]) (hW 38 _ rfl) (hW 39 _ rfl) (hW 40 _ rfl) (hW 41 _ rfl) (by decide) (own_needs l Z a0 H xn xm tn tm csn csm h565 S565.old SN SM) own_pdd2c627 rfl rfl (hz _ rfl) (rest := []) rfl (W := 0) (Own.hw0 rfl rfl) (hb hby at_292) (by decide) (by decide) (by decide) (by decide) (fun v581 vm581 T581 h581 S581 C581 q581 => ?_)
                      obtain ⟨K581, c581, rfl, qq581⟩ := q581
                      have J581 : Own.Stp Z consts_1 vm565 h565 vm581 h581 [] := ⟨K581, C581⟩
                      rcases qq581 with ⟨rfl, qa581⟩ | ⟨rfl, qa581⟩
                      ·
                        refine hG.st (fun t q => XS.iload S581.here hx rfl (hb hby at_295) rfl (XS.icmpNo S581.here hx rfl (hb hby at_297) rfl (teq (by decide : (1 : Int32) = (1 : Int32))).2 (XS.iconst S581.here hx rfl (hb hby at_300) (XS.goto S581.here hx rfl (pc0 := 301) (pc' := 305) rfl (hb hby at_301) (by decide) (by decide) q)))) ?_
                        show G T581 (mkF m 305 #[iv q0, iv q1, iv q2, iv q3, iv q4, iv q5, iv kk, iv mu1, iv cN, iv mm, iv mu2, iv cM, rv b12, rv xn, iv it1, rv b15, iv p16, iv o17, rv xm, iv it2, iv 1] [(.int 1)])
                        have J582 : Own.Stp Z consts_1 vm0 h0 vm565 h565 [] := Own.Stp.trans J564 J565 (all0) all0
                        have J583 : Own.Stp Z consts_1 vm0 h0 vm581 h581 [] := Own.Stp.trans J582 J581 (all0) all0
                        exact Own.Sit.retN hR S581 hx (t := .boolean) hret (by simp) (hb hby at_305) (by decide) (by decide) ⟨J583.1, rfl⟩
                      ·
                        exfalso
                        obtain ⟨pn0, pn1⟩ := id hPn
                        obtain ⟨pm0, pm1, pm2, pm3⟩ := id hPm
                        rw [pn0, pn1, pm0, pm1, pm2, pm3] at qa581
                        simp_all
                    ·
                      refine hG.st (fun t q => XS.icmpYes S565.here hx rfl (pc0 := 278) (pc' := 285) rfl (hb hby at_278) rfl (feq hc278).2 (by decide) (by decide) (XS.iconst S565.here hx rfl (hb hby at_285) (XS.istore S565.here hx rfl (hb hby at_286) rfl (l' := #[iv q0, iv q1, iv q2, iv q3, iv q4, iv q5, iv kk, iv mu1, iv cN, iv mm, iv mu2, iv cM, rv b12, rv xn, iv it1, rv b15, iv p16, iv o17, rv xm, iv it2, iv 0]) rfl (XS.aload S565.here hx rfl (hb hby at_288) rfl rfl (XS.aload S565.here hx rfl (hb hby at_290) rfl rfl q))))) ?_
                      show G T565 (mkF m 292 #[iv q0, iv q1, iv q2, iv q3, iv q4, iv q5, iv kk, iv mu1, iv cN, iv mm, iv mu2, iv cM, rv b12, rv xn, iv it1, rv b15, iv p16, iv o17, rv xm, iv it2, iv 0] [(.ref xm), (.ref xn)])
                      refine Own.Sit.callS hG S565 hx hEL (as := [(.ref xn), (.ref xm)]) (hW 38 _ rfl) (hW 39 _ rfl) (hW 40 _ rfl) (hW 41 _ rfl) (by decide) (own_needs l Z a0 H xn xm tn tm csn csm h565 S565.old SN SM) own_pdd2c627 rfl rfl (hz _ rfl) (rest := []) rfl (W := 0) (Own.hw0 rfl rfl) (hb hby at_292) (by decide) (by decide) (by decide) (by decide) (fun v584 vm584 T584 h584 S584 C584 q584 => ?_)
                      obtain ⟨K584, c584, rfl, qq584⟩ := q584
                      have J584 : Own.Stp Z consts_1 vm565 h565 vm584 h584 [] := ⟨K584, C584⟩
                      rcases qq584 with ⟨rfl, qa584⟩ | ⟨rfl, qa584⟩
                      ·
                        exfalso
                        obtain ⟨pn0, pn1⟩ := id hPn
                        obtain ⟨pm0, pm1, pm2, pm3⟩ := id hPm
                        rw [pn0, pn1, pm0, pm1, pm2, pm3] at qa584
                        simp_all
                      ·
                        refine hG.st (fun t q => XS.iload S584.here hx rfl (hb hby at_295) rfl (XS.icmpNo S584.here hx rfl (hb hby at_297) rfl (teq (by decide : (0 : Int32) = (0 : Int32))).2 (XS.iconst S584.here hx rfl (hb hby at_300) (XS.goto S584.here hx rfl (pc0 := 301) (pc' := 305) rfl (hb hby at_301) (by decide) (by decide) q)))) ?_
                        show G T584 (mkF m 305 #[iv q0, iv q1, iv q2, iv q3, iv q4, iv q5, iv kk, iv mu1, iv cN, iv mm, iv mu2, iv cM, rv b12, rv xn, iv it1, rv b15, iv p16, iv o17, rv xm, iv it2, iv 0] [(.int 1)])
                        have J585 : Own.Stp Z consts_1 vm0 h0 vm565 h565 [] := Own.Stp.trans J564 J565 (all0) all0
                        have J586 : Own.Stp Z consts_1 vm0 h0 vm584 h584 [] := Own.Stp.trans J585 J584 (all0) all0
                        exact Own.Sit.retN hR S584 hx (t := .boolean) hret (by simp) (hb hby at_305) (by decide) (by decide) ⟨J586.1, rfl⟩
                ·
                  refine hG.st (fun t q => XS.icmpYes S565.here hx rfl (pc0 := 266) (pc' := 285) rfl (hb hby at_266) rfl (feq hc266).2 (by decide) (by decide) (XS.iconst S565.here hx rfl (hb hby at_285) (XS.istore S565.here hx rfl (hb hby at_286) rfl (l' := #[iv q0, iv q1, iv q2, iv q3, iv q4, iv q5, iv kk, iv mu1, iv cN, iv mm, iv mu2, iv cM, rv b12, rv xn, iv it1, rv b15, iv p16, iv o17, rv xm, iv it2, iv 0]) rfl (XS.aload S565.here hx rfl (hb hby at_288) rfl rfl (XS.aload S565.here hx rfl (hb hby at_290) rfl rfl q))))) ?_
                  show G T565 (mkF m 292 #[iv q0, iv q1, iv q2, iv q3, iv q4, iv q5, iv kk, iv mu1, iv cN, iv mm, iv mu2, iv cM, rv b12, rv xn, iv it1, rv b15, iv p16, iv o17, rv xm, iv it2, iv 0] [(.ref xm), (.ref xn)])
                  refine Own.Sit.callS hG S565 hx hEL (as := [(.ref xn), (.ref xm)]) (hW 38 _ rfl) (hW 39 _ rfl) (hW 40 _ rfl) (hW 41 _ rfl) (by decide) (own_needs l Z a0 H xn xm tn tm csn csm h565 S565.old SN SM) own_pdd2c627 rfl rfl (hz _ rfl) (rest := []) rfl (W := 0) (Own.hw0 rfl rfl) (hb hby at_292) (by decide) (by decide) (by decide) (by decide) (fun v587 vm587 T587 h587 S587 C587 q587 => ?_)
                  obtain ⟨K587, c587, rfl, qq587⟩ := q587
                  have J587 : Own.Stp Z consts_1 vm565 h565 vm587 h587 [] := ⟨K587, C587⟩
                  rcases qq587 with ⟨rfl, qa587⟩ | ⟨rfl, qa587⟩
                  ·
                    exfalso
                    obtain ⟨pn0, pn1⟩ := id hPn
                    obtain ⟨pm0, pm1, pm2, pm3⟩ := id hPm
                    rw [pn0, pn1, pm0, pm1, pm2, pm3] at qa587
                    simp_all
                  ·
                    refine hG.st (fun t q => XS.iload S587.here hx rfl (hb hby at_295) rfl (XS.icmpNo S587.here hx rfl (hb hby at_297) rfl (teq (by decide : (0 : Int32) = (0 : Int32))).2 (XS.iconst S587.here hx rfl (hb hby at_300) (XS.goto S587.here hx rfl (pc0 := 301) (pc' := 305) rfl (hb hby at_301) (by decide) (by decide) q)))) ?_
                    show G T587 (mkF m 305 #[iv q0, iv q1, iv q2, iv q3, iv q4, iv q5, iv kk, iv mu1, iv cN, iv mm, iv mu2, iv cM, rv b12, rv xn, iv it1, rv b15, iv p16, iv o17, rv xm, iv it2, iv 0] [(.int 1)])
                    have J588 : Own.Stp Z consts_1 vm0 h0 vm565 h565 [] := Own.Stp.trans J564 J565 (all0) all0
                    have J589 : Own.Stp Z consts_1 vm0 h0 vm587 h587 [] := Own.Stp.trans J588 J587 (all0) all0
                    exact Own.Sit.retN hR S587 hx (t := .boolean) hret (by simp) (hb hby at_305) (by decide) (by decide) ⟨J589.1, rfl⟩
          ·
            refine hG.st (fun t q => XS.ifYes S565.here hx rfl (pc0 := 249) (pc' := 263) rfl (hb hby at_249) rfl ((if0 _ _).trans (feq hc249).2) (by decide) (by decide) (XS.iload S565.here hx rfl (hb hby at_263) rfl (XS.iconst S565.here hx rfl (hb hby at_265) q))) ?_
            show G T565 (mkF m 266 #[iv q0, iv q1, iv q2, iv q3, iv q4, iv q5, iv kk, iv mu1, iv cN, iv mm, iv mu2, iv cM, rv b12, rv xn, iv it1, rv b15, iv p16, iv o17, rv xm, iv it2, .unset] [(.int 1), (.int kk)])
            by_cases hc266 : kk = (1 : Int32)
            ·
              refine hG.st (fun t q => XS.icmpNo S565.here hx rfl (hb hby at_266) rfl (teq hc266).2 (XS.iload S565.here hx rfl (hb hby at_269) rfl (XS.iconst S565.here hx rfl (hb hby at_271) q))) ?_
              show G T565 (mkF m 272 #[iv q0, iv q1, iv q2, iv q3, iv q4, iv q5, iv kk, iv mu1, iv cN, iv mm, iv mu2, iv cM, rv b12, rv xn, iv it1, rv b15, iv p16, iv o17, rv xm, iv it2, .unset] [(.int 2), (.int mm)])
              by_cases hc272 : mm = (2 : Int32)
              ·
                refine hG.st (fun t q => XS.icmpYes S565.here hx rfl (pc0 := 272) (pc' := 281) rfl (hb hby at_272) rfl (teq hc272).1 (by decide) (by decide) (XS.iconst S565.here hx rfl (hb hby at_281) (XS.goto S565.here hx rfl (pc0 := 282) (pc' := 286) rfl (hb hby at_282) (by decide) (by decide) (XS.istore S565.here hx rfl (hb hby at_286) rfl (l' := #[iv q0, iv q1, iv q2, iv q3, iv q4, iv q5, iv kk, iv mu1, iv cN, iv mm, iv mu2, iv cM, rv b12, rv xn, iv it1, rv b15, iv p16, iv o17, rv xm, iv it2, iv 1]) rfl (XS.aload S565.here hx rfl (hb hby at_288) rfl rfl (XS.aload S565.here hx rfl (hb hby at_290) rfl rfl q)))))) ?_
                show G T565 (mkF m 292 #[iv q0, iv q1, iv q2, iv q3, iv q4, iv q5, iv kk, iv mu1, iv cN, iv mm, iv mu2, iv cM, rv b12, rv xn, iv it1, rv b15, iv p16, iv o17, rv xm, iv it2, iv 1] [(.ref xm), (.ref xn)])
                refine Own.Sit.callS hG S565 hx hEL (as := [(.ref xn), (.ref xm)]) (hW 38 _ rfl) (hW 39 _ rfl) (hW 40 _ rfl) (hW 41 _ rfl) (by decide) (own_needs l Z a0 H xn xm tn tm csn csm h565 S565.old SN SM) own_pdd2c627 rfl rfl (hz _ rfl) (rest := []) rfl (W := 0) (Own.hw0 rfl rfl) (hb hby at_292) (by decide) (by decide) (by decide) (by decide) (fun v590 vm590 T590 h590 S590 C590 q590 => ?_)
                obtain ⟨K590, c590, rfl, qq590⟩ := q590
                have J590 : Own.Stp Z consts_1 vm565 h565 vm590 h590 [] := ⟨K590, C590⟩
                rcases qq590 with ⟨rfl, qa590⟩ | ⟨rfl, qa590⟩
                ·
                  refine hG.st (fun t q => XS.iload S590.here hx rfl (hb hby at_295) rfl (XS.icmpNo S590.here hx rfl (hb hby at_297) rfl (teq (by decide : (1 : Int32) = (1 : Int32))).2 (XS.iconst S590.here hx rfl (hb hby at_300) (XS.goto S590.here hx rfl (pc0 := 301) (pc' := 305) rfl (hb hby at_301) (by decide) (by decide) q)))) ?_
                  show G T590 (mkF m 305 #[iv q0, iv q1, iv q2, iv q3, iv q4, iv q5, iv kk, iv mu1, iv cN, iv mm, iv mu2, iv cM, rv b12, rv xn, iv it1, rv b15, iv p16, iv o17, rv xm, iv it2, iv 1] [(.int 1)])
                  have J591 : Own.Stp Z consts_1 vm0 h0 vm565 h565 [] := Own.Stp.trans J564 J565 (all0) all0
                  have J592 : Own.Stp Z consts_1 vm0 h0 vm590 h590 [] := Own.Stp.trans J591 J590 (all0) all0
                  exact Own.Sit.retN hR S590 hx (t := .boolean) hret (by simp) (hb hby at_305) (by decide) (by decide) ⟨J592.1, rfl⟩
                ·
                  exfalso
                  obtain ⟨pn0, pn1⟩ := id hPn
                  obtain ⟨pm0, pm1, pm2, pm3⟩ := id hPm
                  rw [pn0, pn1, pm0, pm1, pm2, pm3] at qa590
                  simp_all
              ·
                refine hG.st (fun t q => XS.icmpNo S565.here hx rfl (hb hby at_272) rfl (feq hc272).1 (XS.iload S565.here hx rfl (hb hby at_275) rfl (XS.iconst S565.here hx rfl (hb hby at_277) q))) ?_
                show G T565 (mkF m 278 #[iv q0, iv q1, iv q2, iv q3, iv q4, iv q5, iv kk, iv mu1, iv cN, iv mm, iv mu2, iv cM, rv b12, rv xn, iv it1, rv b15, iv p16, iv o17, rv xm, iv it2, .unset] [(.int 3), (.int mm)])
                by_cases hc278 : mm = (3 : Int32)
                ·
                  refine hG.st (fun t q => XS.icmpNo S565.here hx rfl (hb hby at_278) rfl (teq hc278).2 (XS.iconst S565.here hx rfl (hb hby at_281) (XS.goto S565.here hx rfl (pc0 := 282) (pc' := 286) rfl (hb hby at_282) (by decide) (by decide) (XS.istore S565.here hx rfl (hb hby at_286) rfl (l' := #[iv q0, iv q1, iv q2, iv q3, iv q4, iv q5, iv kk, iv mu1, iv cN, iv mm, iv mu2, iv cM, rv b12, rv xn, iv it1, rv b15, iv p16, iv o17, rv xm, iv it2, iv 1]) rfl (XS.aload S565.here hx rfl (hb hby at_288) rfl rfl (XS.aload S565.here hx rfl (hb hby at_290) rfl rfl q)))))) ?_
                  show G T565 (mkF m 292 #[iv q0, iv q1, iv q2, iv q3, iv q4, iv q5, iv kk, iv mu1, iv cN, iv mm, iv mu2, iv cM, rv b12, rv xn, iv it1, rv b15, iv p16, iv o17, rv xm, iv it2, iv 1] [(.ref xm), (.ref xn)])
                  refine Own.Sit.callS hG S565 hx hEL (as := [(.ref xn), (.ref xm)]) (hW 38 _ rfl) (hW 39 _ rfl) (hW 40 _ rfl) (hW 41 _ rfl) (by decide) (own_needs l Z a0 H xn xm tn tm csn csm h565 S565.old SN SM) own_pdd2c627 rfl rfl (hz _ rfl) (rest := []) rfl (W := 0) (Own.hw0 rfl rfl) (hb hby at_292) (by decide) (by decide) (by decide) (by decide) (fun v593 vm593 T593 h593 S593 C593 q593 => ?_)
                  obtain ⟨K593, c593, rfl, qq593⟩ := q593
                  have J593 : Own.Stp Z consts_1 vm565 h565 vm593 h593 [] := ⟨K593, C593⟩
                  rcases qq593 with ⟨rfl, qa593⟩ | ⟨rfl, qa593⟩
                  ·
                    refine hG.st (fun t q => XS.iload S593.here hx rfl (hb hby at_295) rfl (XS.icmpNo S593.here hx rfl (hb hby at_297) rfl (teq (by decide : (1 : Int32) = (1 : Int32))).2 (XS.iconst S593.here hx rfl (hb hby at_300) (XS.goto S593.here hx rfl (pc0 := 301) (pc' := 305) rfl (hb hby at_301) (by decide) (by decide) q)))) ?_
                    show G T593 (mkF m 305 #[iv q0, iv q1, iv q2, iv q3, iv q4, iv q5, iv kk, iv mu1, iv cN, iv mm, iv mu2, iv cM, rv b12, rv xn, iv it1, rv b15, iv p16, iv o17, rv xm, iv it2, iv 1] [(.int 1)])
                    have J594 : Own.Stp Z consts_1 vm0 h0 vm565 h565 [] := Own.Stp.trans J564 J565 (all0) all0
                    have J595 : Own.Stp Z consts_1 vm0 h0 vm593 h593 [] := Own.Stp.trans J594 J593 (all0) all0
                    exact Own.Sit.retN hR S593 hx (t := .boolean) hret (by simp) (hb hby at_305) (by decide) (by decide) ⟨J595.1, rfl⟩
                  ·
                    exfalso
                    obtain ⟨pn0, pn1⟩ := id hPn
                    obtain ⟨pm0, pm1, pm2, pm3⟩ := id hPm
                    rw [pn0, pn1, pm0, pm1, pm2, pm3] at qa593
                    simp_all
                ·
                  refine hG.st (fun t q => XS.icmpYes S565.here hx rfl (pc0 := 278) (pc' := 285) rfl (hb hby at_278) rfl (feq hc278).2 (by decide) (by decide) (XS.iconst S565.here hx rfl (hb hby at_285) (XS.istore S565.here hx rfl (hb hby at_286) rfl (l' := #[iv q0, iv q1, iv q2, iv q3, iv q4, iv q5, iv kk, iv mu1, iv cN, iv mm, iv mu2, iv cM, rv b12, rv xn, iv it1, rv b15, iv p16, iv o17, rv xm, iv it2, iv 0]) rfl (XS.aload S565.here hx rfl (hb hby at_288) rfl rfl (XS.aload S565.here hx rfl (hb hby at_290) rfl rfl q))))) ?_
                  show G T565 (mkF m 292 #[iv q0, iv q1, iv q2, iv q3, iv q4, iv q5, iv kk, iv mu1, iv cN, iv mm, iv mu2, iv cM, rv b12, rv xn, iv it1, rv b15, iv p16, iv o17, rv xm, iv it2, iv 0] [(.ref xm), (.ref xn)])
                  refine Own.Sit.callS hG S565 hx hEL (as := [(.ref xn), (.ref xm)]) (hW 38 _ rfl) (hW 39 _ rfl) (hW 40 _ rfl) (hW 41 _ rfl) (by decide) (own_needs l Z a0 H xn xm tn tm csn csm h565 S565.old SN SM) own_pdd2c627 rfl rfl (hz _ rfl) (rest := []) rfl (W := 0) (Own.hw0 rfl rfl) (hb hby at_292) (by decide) (by decide) (by decide) (by decide) (fun v596 vm596 T596 h596 S596 C596 q596 => ?_)
                  obtain ⟨K596, c596, rfl, qq596⟩ := q596
                  have J596 : Own.Stp Z consts_1 vm565 h565 vm596 h596 [] := ⟨K596, C596⟩
                  rcases qq596 with ⟨rfl, qa596⟩ | ⟨rfl, qa596⟩
                  ·
                    exfalso
                    obtain ⟨pn0, pn1⟩ := id hPn
                    obtain ⟨pm0, pm1, pm2, pm3⟩ := id hPm
                    rw [pn0, pn1, pm0, pm1, pm2, pm3] at qa596
                    simp_all
                  ·
                    refine hG.st (fun t q => XS.iload S596.here hx rfl (hb hby at_295) rfl (XS.icmpNo S596.here hx rfl (hb hby at_297) rfl (teq (by decide : (0 : Int32) = (0 : Int32))).2 (XS.iconst S596.here hx rfl (hb hby at_300) (XS.goto S596.here hx rfl (pc0 := 301) (pc' := 305) rfl (hb hby at_301) (by decide) (by decide) q)))) ?_
                    show G T596 (mkF m 305 #[iv q0, iv q1, iv q2, iv q3, iv q4, iv q5, iv kk, iv mu1, iv cN, iv mm, iv mu2, iv cM, rv b12, rv xn, iv it1, rv b15, iv p16, iv o17, rv xm, iv it2, iv 0] [(.int 1)])
                    have J597 : Own.Stp Z consts_1 vm0 h0 vm565 h565 [] := Own.Stp.trans J564 J565 (all0) all0
                    have J598 : Own.Stp Z consts_1 vm0 h0 vm596 h596 [] := Own.Stp.trans J597 J596 (all0) all0
                    exact Own.Sit.retN hR S596 hx (t := .boolean) hret (by simp) (hb hby at_305) (by decide) (by decide) ⟨J598.1, rfl⟩
            ·
              refine hG.st (fun t q => XS.icmpYes S565.here hx rfl (pc0 := 266) (pc' := 285) rfl (hb hby at_266) rfl (feq hc266).2 (by decide) (by decide) (XS.iconst S565.here hx rfl (hb hby at_285) (XS.istore S565.here hx rfl (hb hby at_286) rfl (l' := #[iv q0, iv q1, iv q2, iv q3, iv q4, iv q5, iv kk, iv mu1, iv cN, iv mm, iv mu2, iv cM, rv b12, rv xn, iv it1, rv b15, iv p16, iv o17, rv xm, iv it2, iv 0]) rfl (XS.aload S565.here hx rfl (hb hby at_288) rfl rfl (XS.aload S565.here hx rfl (hb hby at_290) rfl rfl q))))) ?_
              show G T565 (mkF m 292 #[iv q0, iv q1, iv q2, iv q3, iv q4, iv q5, iv kk, iv mu1, iv cN, iv mm, iv mu2, iv cM, rv b12, rv xn, iv it1, rv b15, iv p16, iv o17, rv xm, iv it2, iv 0] [(.ref xm), (.ref xn)])
              refine Own.Sit.callS hG S565 hx hEL (as := [(.ref xn), (.ref xm)]) (hW 38 _ rfl) (hW 39 _ rfl) (hW 40 _ rfl) (hW 41 _ rfl) (by decide) (own_needs l Z a0 H xn xm tn tm csn csm h565 S565.old SN SM) own_pdd2c627 rfl rfl (hz _ rfl) (rest := []) rfl (W := 0) (Own.hw0 rfl rfl) (hb hby at_292) (by decide) (by decide) (by decide) (by decide) (fun v599 vm599 T599 h599 S599 C599 q599 => ?_)
              obtain ⟨K599, c599, rfl, qq599⟩ := q599
              have J599 : Own.Stp Z consts_1 vm565 h565 vm599 h599 [] := ⟨K599, C599⟩
              rcases qq599 with ⟨rfl, qa599⟩ | ⟨rfl, qa599⟩
              ·
                exfalso
                obtain ⟨pn0, pn1⟩ := id hPn
                obtain ⟨pm0, pm1, pm2, pm3⟩ := id hPm
                rw [pn0, pn1, pm0, pm1, pm2, pm3] at qa599
                simp_all
              ·
                refine hG.st (fun t q => XS.iload S599.here hx rfl (hb hby at_295) rfl (XS.icmpNo S599.here hx rfl (hb hby at_297) rfl (teq (by decide : (0 : Int32) = (0 : Int32))).2 (XS.iconst S599.here hx rfl (hb hby at_300) (XS.goto S599.here hx rfl (pc0 := 301) (pc' := 305) rfl (hb hby at_301) (by decide) (by decide) q)))) ?_
                show G T599 (mkF m 305 #[iv q0, iv q1, iv q2, iv q3, iv q4, iv q5, iv kk, iv mu1, iv cN, iv mm, iv mu2, iv cM, rv b12, rv xn, iv it1, rv b15, iv p16, iv o17, rv xm, iv it2, iv 0] [(.int 1)])
                have J600 : Own.Stp Z consts_1 vm0 h0 vm565 h565 [] := Own.Stp.trans J564 J565 (all0) all0
                have J601 : Own.Stp Z consts_1 vm0 h0 vm599 h599 [] := Own.Stp.trans J600 J599 (all0) all0
                exact Own.Sit.retN hR S599 hx (t := .boolean) hret (by simp) (hb hby at_305) (by decide) (by decide) ⟨J601.1, rfl⟩
    have JB : ∀ (vm602 : Vm) (T602 : State) (h602 : Heap) (kk : Int32) (b12 : Addr) (xn : Addr) (tn : Addr) (csn : List Int32) (it1 : Int32) (s15 : Slot) (s16 : Slot), Own.Sit p l e room_1 s m #[(.int q0), (.int q1), (.int q2), (.int q3), (.int q4), (.int q5)] below meth c Z consts_1 "com/example/scholiast/scholiast/ModsReaderNeedsChildElementPinLaw" vm602 T602 h602 16 1000 → Own.Stp Z consts_1 vm564 h564 vm602 h602 [] → Own.Str Z h602 xn tn csn → own_Pn kk it1 csn → One s15 → One s16 → G T602 (mkF m 170 #[iv q0, iv q1, iv q2, iv q3, iv q4, iv q5, iv kk, iv mu1, iv cN, iv m0, iv mu2, iv cM, rv b12, rv xn, iv it1, s15, s16, .unset, .unset, .unset, .unset] []) := by
      intro vm602 T602 h602 kk b12 xn tn csn it1 s15 s16 S602 J602 SN hPn ho15 ho16
      show G T602 (mkF m 170 #[iv q0, iv q1, iv q2, iv q3, iv q4, iv q5, iv kk, iv mu1, iv cN, iv m0, iv mu2, iv cM, rv b12, rv xn, iv it1, s15, s16, .unset, .unset, .unset, .unset] [])
      by_cases hm0 : m0 = (0 : Int32)
      ·
        rw [hm0]
        show G T602 (mkF m 170 #[iv q0, iv q1, iv q2, iv q3, iv q4, iv q5, iv kk, iv mu1, iv cN, iv 0, iv mu2, iv cM, rv b12, rv xn, iv it1, s15, s16, .unset, .unset, .unset, .unset] [])
        refine hG.st (fun t q => XS.iload S602.here hx rfl (hb hby at_170) rfl q) ?_
        show G T602 (mkF m 172 #[iv q0, iv q1, iv q2, iv q3, iv q4, iv q5, iv kk, iv mu1, iv cN, iv 0, iv mu2, iv cM, rv b12, rv xn, iv it1, s15, s16, .unset, .unset, .unset, .unset] [(.int 0)])
        refine Own.Sit.callS hG S602 hx hEL (as := [(.int 0)]) (hW 35 _ rfl) (hW 36 _ rfl) (hW 2 _ rfl) (hW 37 _ rfl) (by decide) (own_nm0 l Z a0 H h602 S602.old) own_pd864215 rfl rfl (hz _ rfl) (rest := []) rfl (W := 0) (Own.hw0 rfl rfl) (hb hby at_172) (by decide) (by decide) (by decide) (by decide) (fun v603 vm603 T603 h603 S603 C603 q603 => ?_)
        obtain ⟨K603, x603, k603, rfl, u603, V603⟩ := q603
        have J603 : Own.Stp Z consts_1 vm602 h602 vm603 h603 [] := ⟨K603, C603⟩
        have ga_x603 : Z.heap.size ≤ x603 := Nat.le_trans S602.le u603
        refine hG.st (fun t q => XS.astore S603.here hx rfl (hb hby at_175) rfl rfl (l' := #[iv q0, iv q1, iv q2, iv q3, iv q4, iv q5, iv kk, iv mu1, iv cN, iv 0, iv mu2, iv cM, rv b12, rv xn, iv it1, rv x603, s16, .unset, .unset, .unset, .unset]) (own_os604 ho15) (XS.iload S603.here hx rfl (hb hby at_177) rfl q)) ?_
        show G T603 (mkF m 179 #[iv q0, iv q1, iv q2, iv q3, iv q4, iv q5, iv kk, iv mu1, iv cN, iv 0, iv mu2, iv cM, rv b12, rv xn, iv it1, rv x603, s16, .unset, .unset, .unset, .unset] [(.int q4)])
        refine Own.Sit.ldcI hG S603 hx (hW 5 _ rfl) rfl (hb hby at_179) ?_
        show G T603 (mkF m 181 #[iv q0, iv q1, iv q2, iv q3, iv q4, iv q5, iv kk, iv mu1, iv cN, iv 0, iv mu2, iv cM, rv b12, rv xn, iv it1, rv x603, s16, .unset, .unset, .unset, .unset] [(.int 2147483647), (.int q4)])
        refine hG.st (fun t q => XS.iand S603.here hx rfl (hb hby at_181) rfl (XS.aload S603.here hx rfl (hb hby at_182) rfl rfl q)) ?_
        show G T603 (mkF m 184 #[iv q0, iv q1, iv q2, iv q3, iv q4, iv q5, iv kk, iv mu1, iv cN, iv 0, iv mu2, iv cM, rv b12, rv xn, iv it1, rv x603, s16, .unset, .unset, .unset, .unset] [(.ref x603), (.int (q4 &&& (2147483647 : Int32)))])
        refine Own.Sit.arraylength hG S603 hx V603 rfl rfl (hb hby at_184) ?_
        show G T603 (mkF m 185 #[iv q0, iv q1, iv q2, iv q3, iv q4, iv q5, iv kk, iv mu1, iv cN, iv 0, iv mu2, iv cM, rv b12, rv xn, iv it1, rv x603, s16, .unset, .unset, .unset, .unset] [(.int 4), (.int (q4 &&& (2147483647 : Int32)))])
        refine hG.st (fun t q => Own.irem S603.here hx rfl (hb hby at_185) rfl (by decide) (XS.istore S603.here hx rfl (hb hby at_186) rfl (l' := #[iv q0, iv q1, iv q2, iv q3, iv q4, iv q5, iv kk, iv mu1, iv cN, iv 0, iv mu2, iv cM, rv b12, rv xn, iv it1, rv x603, iv ((q4 &&& (2147483647 : Int32)) % (4 : Int32)), .unset, .unset, .unset, .unset]) (own_os605 ho16) (XS.aload S603.here hx rfl (hb hby at_188) rfl rfl (XS.iload S603.here hx rfl (hb hby at_190) rfl q)))) ?_
        show G T603 (mkF m 192 #[iv q0, iv q1, iv q2, iv q3, iv q4, iv q5, iv kk, iv mu1, iv cN, iv 0, iv mu2, iv cM, rv b12, rv xn, iv it1, rv x603, iv ((q4 &&& (2147483647 : Int32)) % (4 : Int32)), .unset, .unset, .unset, .unset] [(.int ((q4 &&& (2147483647 : Int32)) % (4 : Int32))), (.ref x603)])
        refine Own.Sit.caload hG S603 hx V603 (own_ix _ (4 : Int32) (by decide)) (own_get (cs := own_M0) (own_ixn (n := (4 : Int32)) (own_ix _ (4 : Int32) (by decide)) (by decide))) rfl rfl (hb hby at_192) ?_
        obtain ⟨o17, eo17⟩ : ∃ z, z = own_M0.getD ((q4 &&& (2147483647 : Int32)) % (4 : Int32)).toNatClampNeg 0 := ⟨_, rfl⟩
        rw [← eo17]
        show G T603 (mkF m 193 #[iv q0, iv q1, iv q2, iv q3, iv q4, iv q5, iv kk, iv mu1, iv cN, iv 0, iv mu2, iv cM, rv b12, rv xn, iv it1, rv x603, iv ((q4 &&& (2147483647 : Int32)) % (4 : Int32)), .unset, .unset, .unset, .unset] [(.int o17)])
        refine hG.st (fun t q => XS.istore S603.here hx rfl (hb hby at_193) rfl (l' := #[iv q0, iv q1, iv q2, iv q3, iv q4, iv q5, iv kk, iv mu1, iv cN, iv 0, iv mu2, iv cM, rv b12, rv xn, iv it1, rv x603, iv ((q4 &&& (2147483647 : Int32)) % (4 : Int32)), iv o17, .unset, .unset, .unset]) rfl (XS.iload S603.here hx rfl (hb hby at_195) rfl q)) ?_
        show G T603 (mkF m 197 #[iv q0, iv q1, iv q2, iv q3, iv q4, iv q5, iv kk, iv mu1, iv cN, iv 0, iv mu2, iv cM, rv b12, rv xn, iv it1, rv x603, iv ((q4 &&& (2147483647 : Int32)) % (4 : Int32)), iv o17, .unset, .unset, .unset] [(.int mu2)])
        by_cases hc197 : mu2 = (0 : Int32)
        ·
          refine hG.st (fun t q => XS.ifYes S603.here hx rfl (pc0 := 197) (pc' := 207) rfl (hb hby at_197) rfl ((if0 _ _).trans (teq hc197).1) (by decide) (by decide) q) ?_
          show G T603 (mkF m 207 #[iv q0, iv q1, iv q2, iv q3, iv q4, iv q5, iv kk, iv mu1, iv cN, iv 0, iv mu2, iv cM, rv b12, rv xn, iv it1, rv x603, iv ((q4 &&& (2147483647 : Int32)) % (4 : Int32)), iv o17, .unset, .unset, .unset] [])
          refine Own.Sit.newO hG S603 hx (hW 6 _ rfl) (hW 7 _ rfl) (hW 8 _ rfl) rfl (hb hby at_207) (by decide) (by decide) (fun T606 h606 x606 g_x606 S606 J606 Sf606 E606 D606 => ?_)
          have lt_x606 := E606.lt
          have ga_x606 : Z.heap.size ≤ x606 := Nat.le_trans S603.le (Nat.le_of_eq g_x606.symm)
          have F607 : Fld Z h606 x606 "java/lang/String" "coder" "B" (.int 0) := D606 (Or.inr (hW 32 _ rfl)) (ty := .byte) (by decide)
          have F608 : Fld Z h606 x606 "java/lang/String" "value" "[B" .null := D606 (Or.inr (hW 34 _ rfl)) (ty := (.array .byte)) (by decide)
          refine hG.st (fun t q => XS.dup S606.here hx rfl (hb hby at_210) rfl rfl (XS.aload S606.here hx rfl (hb hby at_211) rfl rfl q)) ?_
          show G T606 (mkF m 213 #[iv q0, iv q1, iv q2, iv q3, iv q4, iv q5, iv kk, iv mu1, iv cN, iv 0, iv mu2, iv cM, rv b12, rv xn, iv it1, rv x603, iv ((q4 &&& (2147483647 : Int32)) % (4 : Int32)), iv o17, .unset, .unset, .unset] [(.ref x603), (.ref x606), (.ref x606)])
          have V609 := J606.arv V603 nin0
          refine Own.Sit.newStr hG S606 hx hWs hCm (hW 7 _ rfl) (hW 9 _ rfl) (hW 10 _ rfl) (cs := own_M0) ga_x606 Sf606 E606 F608 F607 V609 (by decide) (by decide) (by decide) (by decide) (nn := 4) (by decide) rfl (hz _ rfl) (rest := [(.ref x606)]) rfl (W := 1) (Own.hw0 rfl rfl) (hb hby at_213) (by decide) (by decide) (by decide) (by decide) (fun T610 h610 y610 S610 J610 u610 St610 => ?_)
          refine hG.st (fun t q => XS.astore S610.here hx rfl (hb hby at_216) rfl rfl (l' := #[iv q0, iv q1, iv q2, iv q3, iv q4, iv q5, iv kk, iv mu1, iv cN, iv 0, iv mu2, iv cM, rv b12, rv xn, iv it1, rv x603, iv ((q4 &&& (2147483647 : Int32)) % (4 : Int32)), iv o17, rv x606, .unset, .unset]) rfl (XS.iload S610.here hx rfl (hb hby at_218) rfl (XS.ifYes S610.here hx rfl (pc0 := 220) (pc' := 230) rfl (hb hby at_220) rfl ((if0 _ _).trans (teq (hc197 : mu2 = (0 : Int32))).1) (by decide) (by decide) (XS.iconst S610.here hx rfl (hb hby at_230) (XS.goto S610.here hx rfl (pc0 := 231) (pc' := 235) rfl (hb hby at_231) (by decide) (by decide) (XS.istore S610.here hx rfl (hb hby at_235) rfl (l' := #[iv q0, iv q1, iv q2, iv q3, iv q4, iv q5, iv kk, iv mu1, iv cN, iv 0, iv mu2, iv cM, rv b12, rv xn, iv it1, rv x603, iv ((q4 &&& (2147483647 : Int32)) % (4 : Int32)), iv o17, rv x606, iv 1, .unset]) rfl q)))))) ?_
          show G T610 (mkF m 237 #[iv q0, iv q1, iv q2, iv q3, iv q4, iv q5, iv kk, iv mu1, iv cN, iv 0, iv mu2, iv cM, rv b12, rv xn, iv it1, rv x603, iv ((q4 &&& (2147483647 : Int32)) % (4 : Int32)), iv o17, rv x606, iv 1, .unset] [])
          have J611 : Own.Stp Z consts_1 vm602 h602 vm603 h606 [] := Own.Stp.trans J603 J606 (all0) all0
          have J612 : Own.Stp Z consts_1 vm602 h602 vm603 h610 [] := Own.Stp.trans J611 J610 (all0) (allS (Or.inr (Nat.le_trans J603.1.1 (Nat.le_of_eq g_x606.symm))) all0)
          have St613 := J612.str SN nin0 nin0
          have J614 : Own.Stp Z consts_1 vm564 h564 vm603 h603 [] := Own.Stp.trans J602 J603 (all0) all0
          have J615 : Own.Stp Z consts_1 vm564 h564 vm603 h606 [] := Own.Stp.trans J614 J606 (all0) all0
          have J616 : Own.Stp Z consts_1 vm564 h564 vm603 h610 [] := Own.Stp.trans J615 J610 (all0) (allS (Or.inr (Nat.le_trans J614.1.1 (Nat.le_of_eq g_x606.symm))) all0)
          exact JA vm603 T610 h610 kk (0 : Int32) b12 xn tn csn it1 x603 ((q4 &&& (2147483647 : Int32)) % (4 : Int32)) o17 x606 y610 own_M0 (1 : Int32) (S610.mono (by decide) (by decide)) J616 St613 St610 hPn own_Pm0
        ·
          refine hG.st (fun t q => XS.ifNo S603.here hx rfl (hb hby at_197) rfl ((if0 _ _).trans (feq hc197).1) (XS.aload S603.here hx rfl (hb hby at_200) rfl rfl (XS.iload S603.here hx rfl (hb hby at_202) rfl (XS.iload S603.here hx rfl (hb hby at_204) rfl q)))) ?_
          show G T603 (mkF m 206 #[iv q0, iv q1, iv q2, iv q3, iv q4, iv q5, iv kk, iv mu1, iv cN, iv 0, iv mu2, iv cM, rv b12, rv xn, iv it1, rv x603, iv ((q4 &&& (2147483647 : Int32)) % (4 : Int32)), iv o17, .unset, .unset, .unset] [(.int cM), (.int ((q4 &&& (2147483647 : Int32)) % (4 : Int32))), (.ref x603)])
          refine Own.Sit.stC hG S603 hx V603 ga_x603 (own_ix _ (4 : Int32) (by decide)) ((q4 &&& (2147483647 : Int32)) % (4 : Int32)).toNatClampNeg rfl (by rw [List.length_map]; exact (own_ixn (n := (4 : Int32)) (own_ix _ (4 : Int32) (by decide)) (by decide))) rfl rfl (hb hby at_206) (fun T617 h617 S617 J617 V617 => ?_)
          rw [own_nar rcM, ← List.map_set] at V617
          show G T617 (mkF m 207 #[iv q0, iv q1, iv q2, iv q3, iv q4, iv q5, iv kk, iv mu1, iv cN, iv 0, iv mu2, iv cM, rv b12, rv xn, iv it1, rv x603, iv ((q4 &&& (2147483647 : Int32)) % (4 : Int32)), iv o17, .unset, .unset, .unset] [])
          refine Own.Sit.newO hG S617 hx (hW 6 _ rfl) (hW 7 _ rfl) (hW 8 _ rfl) rfl (hb hby at_207) (by decide) (by decide) (fun T618 h618 x618 g_x618 S618 J618 Sf618 E618 D618 => ?_)
          have lt_x618 := E618.lt
          have ga_x618 : Z.heap.size ≤ x618 := Nat.le_trans S617.le (Nat.le_of_eq g_x618.symm)
          have F619 : Fld Z h618 x618 "java/lang/String" "coder" "B" (.int 0) := D618 (Or.inr (hW 32 _ rfl)) (ty := .byte) (by decide)
          have F620 : Fld Z h618 x618 "java/lang/String" "value" "[B" .null := D618 (Or.inr (hW 34 _ rfl)) (ty := (.array .byte)) (by decide)
          refine hG.st (fun t q => XS.dup S618.here hx rfl (hb hby at_210) rfl rfl (XS.aload S618.here hx rfl (hb hby at_211) rfl rfl q)) ?_
          show G T618 (mkF m 213 #[iv q0, iv q1, iv q2, iv q3, iv q4, iv q5, iv kk, iv mu1, iv cN, iv 0, iv mu2, iv cM, rv b12, rv xn, iv it1, rv x603, iv ((q4 &&& (2147483647 : Int32)) % (4 : Int32)), iv o17, .unset, .unset, .unset] [(.ref x603), (.ref x618), (.ref x618)])
          have V621 := J618.arv V617 nin0
          refine Own.Sit.newStr hG S618 hx hWs hCm (hW 7 _ rfl) (hW 9 _ rfl) (hW 10 _ rfl) (cs := (own_M0.set ((q4 &&& (2147483647 : Int32)) % (4 : Int32)).toNatClampNeg cM)) ga_x618 Sf618 E618 F620 F619 V621 (by rw [List.length_set]; decide) (by rw [List.length_set]; decide) (by rw [List.length_set]; decide) (own_setr (by decide) rcM) (nn := 4) (by rw [List.length_set]; decide) rfl (hz _ rfl) (rest := [(.ref x618)]) rfl (W := 1) (Own.hw0 rfl rfl) (hb hby at_213) (by decide) (by decide) (by decide) (by decide) (fun T622 h622 y622 S622 J622 u622 St622 => ?_)
          refine hG.st (fun t q => XS.astore S622.here hx rfl (hb hby at_216) rfl rfl (l' := #[iv q0, iv q1, iv q2, iv q3, iv q4, iv q5, iv kk, iv mu1, iv cN, iv 0, iv mu2, iv cM, rv b12, rv xn, iv it1, rv x603, iv ((q4 &&& (2147483647 : Int32)) % (4 : Int32)), iv o17, rv x618, .unset, .unset]) rfl (XS.iload S622.here hx rfl (hb hby at_218) rfl (XS.ifNo S622.here hx rfl (hb hby at_220) rfl ((if0 _ _).trans (feq (hc197 : ¬ (mu2 = (0 : Int32)))).1) (XS.iload S622.here hx rfl (hb hby at_223) rfl (XS.iload S622.here hx rfl (hb hby at_225) rfl q))))) ?_
          show G T622 (mkF m 227 #[iv q0, iv q1, iv q2, iv q3, iv q4, iv q5, iv kk, iv mu1, iv cN, iv 0, iv mu2, iv cM, rv b12, rv xn, iv it1, rv x603, iv ((q4 &&& (2147483647 : Int32)) % (4 : Int32)), iv o17, rv x618, .unset, .unset] [(.int o17), (.int cM)])
          by_cases hc227 : cM = o17
          ·
            refine hG.st (fun t q => XS.icmpNo S622.here hx rfl (hb hby at_227) rfl (teq hc227).2 (XS.iconst S622.here hx rfl (hb hby at_230) (XS.goto S622.here hx rfl (pc0 := 231) (pc' := 235) rfl (hb hby at_231) (by decide) (by decide) (XS.istore S622.here hx rfl (hb hby at_235) rfl (l' := #[iv q0, iv q1, iv q2, iv q3, iv q4, iv q5, iv kk, iv mu1, iv cN, iv 0, iv mu2, iv cM, rv b12, rv xn, iv it1, rv x603, iv ((q4 &&& (2147483647 : Int32)) % (4 : Int32)), iv o17, rv x618, iv 1, .unset]) rfl q)))) ?_
            show G T622 (mkF m 237 #[iv q0, iv q1, iv q2, iv q3, iv q4, iv q5, iv kk, iv mu1, iv cN, iv 0, iv mu2, iv cM, rv b12, rv xn, iv it1, rv x603, iv ((q4 &&& (2147483647 : Int32)) % (4 : Int32)), iv o17, rv x618, iv 1, .unset] [])
            have J623 : Own.Stp Z consts_1 vm602 h602 vm603 h617 [] := Own.Stp.trans J603 J617 (all0) (allS (Or.inr u603) all0)
            have J624 : Own.Stp Z consts_1 vm602 h602 vm603 h618 [] := Own.Stp.trans J623 J618 (all0) all0
            have J625 : Own.Stp Z consts_1 vm602 h602 vm603 h622 [] := Own.Stp.trans J624 J622 (all0) (allS (Or.inr (Nat.le_trans J623.1.1 (Nat.le_of_eq g_x618.symm))) all0)
            have St626 := J625.str SN nin0 nin0
            have J627 : Own.Stp Z consts_1 vm564 h564 vm603 h603 [] := Own.Stp.trans J602 J603 (all0) all0
            have J628 : Own.Stp Z consts_1 vm564 h564 vm603 h617 [] := Own.Stp.trans J627 J617 (all0) (allS (Or.inr (Nat.le_trans J602.1.1 u603)) all0)
            have J629 : Own.Stp Z consts_1 vm564 h564 vm603 h618 [] := Own.Stp.trans J628 J618 (all0) all0
            have J630 : Own.Stp Z consts_1 vm564 h564 vm603 h622 [] := Own.Stp.trans J629 J622 (all0) (allS (Or.inr (Nat.le_trans J628.1.1 (Nat.le_of_eq g_x618.symm))) all0)
            exact JA vm603 T622 h622 kk (0 : Int32) b12 xn tn csn it1 x603 ((q4 &&& (2147483647 : Int32)) % (4 : Int32)) o17 x618 y622 (own_M0.set ((q4 &&& (2147483647 : Int32)) % (4 : Int32)).toNatClampNeg cM) (1 : Int32) (S622.mono (by decide) (by decide)) J630 St626 St622 hPn (own_Pm0s (own_ixn (n := (4 : Int32)) (own_ix _ (4 : Int32) (by decide)) (by decide)) (by rw [← eo17]; exact ⟨fun _ => hc227, fun _ => by decide⟩))
          ·
            refine hG.st (fun t q => XS.icmpYes S622.here hx rfl (pc0 := 227) (pc' := 234) rfl (hb hby at_227) rfl (feq hc227).2 (by decide) (by decide) (XS.iconst S622.here hx rfl (hb hby at_234) (XS.istore S622.here hx rfl (hb hby at_235) rfl (l' := #[iv q0, iv q1, iv q2, iv q3, iv q4, iv q5, iv kk, iv mu1, iv cN, iv 0, iv mu2, iv cM, rv b12, rv xn, iv it1, rv x603, iv ((q4 &&& (2147483647 : Int32)) % (4 : Int32)), iv o17, rv x618, iv 0, .unset]) rfl q))) ?_
            show G T622 (mkF m 237 #[iv q0, iv q1, iv q2, iv q3, iv q4, iv q5, iv kk, iv mu1, iv cN, iv 0, iv mu2, iv cM, rv b12, rv xn, iv it1, rv x603, iv ((q4 &&& (2147483647 : Int32)) % (4 : Int32)), iv o17, rv x618, iv 0, .unset] [])
            have J631 : Own.Stp Z consts_1 vm602 h602 vm603 h617 [] := Own.Stp.trans J603 J617 (all0) (allS (Or.inr u603) all0)
            have J632 : Own.Stp Z consts_1 vm602 h602 vm603 h618 [] := Own.Stp.trans J631 J618 (all0) all0
            have J633 : Own.Stp Z consts_1 vm602 h602 vm603 h622 [] := Own.Stp.trans J632 J622 (all0) (allS (Or.inr (Nat.le_trans J631.1.1 (Nat.le_of_eq g_x618.symm))) all0)
            have St634 := J633.str SN nin0 nin0
            have J635 : Own.Stp Z consts_1 vm564 h564 vm603 h603 [] := Own.Stp.trans J602 J603 (all0) all0
            have J636 : Own.Stp Z consts_1 vm564 h564 vm603 h617 [] := Own.Stp.trans J635 J617 (all0) (allS (Or.inr (Nat.le_trans J602.1.1 u603)) all0)
            have J637 : Own.Stp Z consts_1 vm564 h564 vm603 h618 [] := Own.Stp.trans J636 J618 (all0) all0
            have J638 : Own.Stp Z consts_1 vm564 h564 vm603 h622 [] := Own.Stp.trans J637 J622 (all0) (allS (Or.inr (Nat.le_trans J636.1.1 (Nat.le_of_eq g_x618.symm))) all0)
            exact JA vm603 T622 h622 kk (0 : Int32) b12 xn tn csn it1 x603 ((q4 &&& (2147483647 : Int32)) % (4 : Int32)) o17 x618 y622 (own_M0.set ((q4 &&& (2147483647 : Int32)) % (4 : Int32)).toNatClampNeg cM) (0 : Int32) (S622.mono (by decide) (by decide)) J638 St634 St622 hPn (own_Pm0s (own_ixn (n := (4 : Int32)) (own_ix _ (4 : Int32) (by decide)) (by decide)) (by rw [← eo17]; exact ⟨fun z => absurd rfl z, fun z => absurd z hc227⟩))
      by_cases hm1 : m0 = (1 : Int32)
      ·
        rw [hm1]
        show G T602 (mkF m 170 #[iv q0, iv q1, iv q2, iv q3, iv q4, iv q5, iv kk, iv mu1, iv cN, iv 1, iv mu2, iv cM, rv b12, rv xn, iv it1, s15, s16, .unset, .unset, .unset, .unset] [])
        refine hG.st (fun t q => XS.iload S602.here hx rfl (hb hby at_170) rfl q) ?_
        show G T602 (mkF m 172 #[iv q0, iv q1, iv q2, iv q3, iv q4, iv q5, iv kk, iv mu1, iv cN, iv 1, iv mu2, iv cM, rv b12, rv xn, iv it1, s15, s16, .unset, .unset, .unset, .unset] [(.int 1)])
        refine Own.Sit.callS hG S602 hx hEL (as := [(.int 1)]) (hW 35 _ rfl) (hW 36 _ rfl) (hW 2 _ rfl) (hW 37 _ rfl) (by decide) (own_nm1 l Z a0 H h602 S602.old) own_pd864215 rfl rfl (hz _ rfl) (rest := []) rfl (W := 0) (Own.hw0 rfl rfl) (hb hby at_172) (by decide) (by decide) (by decide) (by decide) (fun v639 vm639 T639 h639 S639 C639 q639 => ?_)
        obtain ⟨K639, x639, k639, rfl, u639, V639⟩ := q639
        have J639 : Own.Stp Z consts_1 vm602 h602 vm639 h639 [] := ⟨K639, C639⟩
        have ga_x639 : Z.heap.size ≤ x639 := Nat.le_trans S602.le u639
        refine hG.st (fun t q => XS.astore S639.here hx rfl (hb hby at_175) rfl rfl (l' := #[iv q0, iv q1, iv q2, iv q3, iv q4, iv q5, iv kk, iv mu1, iv cN, iv 1, iv mu2, iv cM, rv b12, rv xn, iv it1, rv x639, s16, .unset, .unset, .unset, .unset]) (own_os640 ho15) (XS.iload S639.here hx rfl (hb hby at_177) rfl q)) ?_
        show G T639 (mkF m 179 #[iv q0, iv q1, iv q2, iv q3, iv q4, iv q5, iv kk, iv mu1, iv cN, iv 1, iv mu2, iv cM, rv b12, rv xn, iv it1, rv x639, s16, .unset, .unset, .unset, .unset] [(.int q4)])
        refine Own.Sit.ldcI hG S639 hx (hW 5 _ rfl) rfl (hb hby at_179) ?_
        show G T639 (mkF m 181 #[iv q0, iv q1, iv q2, iv q3, iv q4, iv q5, iv kk, iv mu1, iv cN, iv 1, iv mu2, iv cM, rv b12, rv xn, iv it1, rv x639, s16, .unset, .unset, .unset, .unset] [(.int 2147483647), (.int q4)])
        refine hG.st (fun t q => XS.iand S639.here hx rfl (hb hby at_181) rfl (XS.aload S639.here hx rfl (hb hby at_182) rfl rfl q)) ?_
        show G T639 (mkF m 184 #[iv q0, iv q1, iv q2, iv q3, iv q4, iv q5, iv kk, iv mu1, iv cN, iv 1, iv mu2, iv cM, rv b12, rv xn, iv it1, rv x639, s16, .unset, .unset, .unset, .unset] [(.ref x639), (.int (q4 &&& (2147483647 : Int32)))])
        refine Own.Sit.arraylength hG S639 hx V639 rfl rfl (hb hby at_184) ?_
        show G T639 (mkF m 185 #[iv q0, iv q1, iv q2, iv q3, iv q4, iv q5, iv kk, iv mu1, iv cN, iv 1, iv mu2, iv cM, rv b12, rv xn, iv it1, rv x639, s16, .unset, .unset, .unset, .unset] [(.int 19), (.int (q4 &&& (2147483647 : Int32)))])
        refine hG.st (fun t q => Own.irem S639.here hx rfl (hb hby at_185) rfl (by decide) (XS.istore S639.here hx rfl (hb hby at_186) rfl (l' := #[iv q0, iv q1, iv q2, iv q3, iv q4, iv q5, iv kk, iv mu1, iv cN, iv 1, iv mu2, iv cM, rv b12, rv xn, iv it1, rv x639, iv ((q4 &&& (2147483647 : Int32)) % (19 : Int32)), .unset, .unset, .unset, .unset]) (own_os641 ho16) (XS.aload S639.here hx rfl (hb hby at_188) rfl rfl (XS.iload S639.here hx rfl (hb hby at_190) rfl q)))) ?_
        show G T639 (mkF m 192 #[iv q0, iv q1, iv q2, iv q3, iv q4, iv q5, iv kk, iv mu1, iv cN, iv 1, iv mu2, iv cM, rv b12, rv xn, iv it1, rv x639, iv ((q4 &&& (2147483647 : Int32)) % (19 : Int32)), .unset, .unset, .unset, .unset] [(.int ((q4 &&& (2147483647 : Int32)) % (19 : Int32))), (.ref x639)])
        refine Own.Sit.caload hG S639 hx V639 (own_ix _ (19 : Int32) (by decide)) (own_get (cs := own_M1) (own_ixn (n := (19 : Int32)) (own_ix _ (19 : Int32) (by decide)) (by decide))) rfl rfl (hb hby at_192) ?_
        obtain ⟨o17, eo17⟩ : ∃ z, z = own_M1.getD ((q4 &&& (2147483647 : Int32)) % (19 : Int32)).toNatClampNeg 0 := ⟨_, rfl⟩
        rw [← eo17]
        show G T639 (mkF m 193 #[iv q0, iv q1, iv q2, iv q3, iv q4, iv q5, iv kk, iv mu1, iv cN, iv 1, iv mu2, iv cM, rv b12, rv xn, iv it1, rv x639, iv ((q4 &&& (2147483647 : Int32)) % (19 : Int32)), .unset, .unset, .unset, .unset] [(.int o17)])
        refine hG.st (fun t q => XS.istore S639.here hx rfl (hb hby at_193) rfl (l' := #[iv q0, iv q1, iv q2, iv q3, iv q4, iv q5, iv kk, iv mu1, iv cN, iv 1, iv mu2, iv cM, rv b12, rv xn, iv it1, rv x639, iv ((q4 &&& (2147483647 : Int32)) % (19 : Int32)), iv o17, .unset, .unset, .unset]) rfl (XS.iload S639.here hx rfl (hb hby at_195) rfl q)) ?_
        show G T639 (mkF m 197 #[iv q0, iv q1, iv q2, iv q3, iv q4, iv q5, iv kk, iv mu1, iv cN, iv 1, iv mu2, iv cM, rv b12, rv xn, iv it1, rv x639, iv ((q4 &&& (2147483647 : Int32)) % (19 : Int32)), iv o17, .unset, .unset, .unset] [(.int mu2)])
        by_cases hc197 : mu2 = (0 : Int32)
        ·
          refine hG.st (fun t q => XS.ifYes S639.here hx rfl (pc0 := 197) (pc' := 207) rfl (hb hby at_197) rfl ((if0 _ _).trans (teq hc197).1) (by decide) (by decide) q) ?_
          show G T639 (mkF m 207 #[iv q0, iv q1, iv q2, iv q3, iv q4, iv q5, iv kk, iv mu1, iv cN, iv 1, iv mu2, iv cM, rv b12, rv xn, iv it1, rv x639, iv ((q4 &&& (2147483647 : Int32)) % (19 : Int32)), iv o17, .unset, .unset, .unset] [])
          refine Own.Sit.newO hG S639 hx (hW 6 _ rfl) (hW 7 _ rfl) (hW 8 _ rfl) rfl (hb hby at_207) (by decide) (by decide) (fun T642 h642 x642 g_x642 S642 J642 Sf642 E642 D642 => ?_)
          have lt_x642 := E642.lt
          have ga_x642 : Z.heap.size ≤ x642 := Nat.le_trans S639.le (Nat.le_of_eq g_x642.symm)
          have F643 : Fld Z h642 x642 "java/lang/String" "coder" "B" (.int 0) := D642 (Or.inr (hW 32 _ rfl)) (ty := .byte) (by decide)
          have F644 : Fld Z h642 x642 "java/lang/String" "value" "[B" .null := D642 (Or.inr (hW 34 _ rfl)) (ty := (.array .byte)) (by decide)
          refine hG.st (fun t q => XS.dup S642.here hx rfl (hb hby at_210) rfl rfl (XS.aload S642.here hx rfl (hb hby at_211) rfl rfl q)) ?_
          show G T642 (mkF m 213 #[iv q0, iv q1, iv q2, iv q3, iv q4, iv q5, iv kk, iv mu1, iv cN, iv 1, iv mu2, iv cM, rv b12, rv xn, iv it1, rv x639, iv ((q4 &&& (2147483647 : Int32)) % (19 : Int32)), iv o17, .unset, .unset, .unset] [(.ref x639), (.ref x642), (.ref x642)])
          have V645 := J642.arv V639 nin0
          refine Own.Sit.newStr hG S642 hx hWs hCm (hW 7 _ rfl) (hW 9 _ rfl) (hW 10 _ rfl) (cs := own_M1) ga_x642 Sf642 E642 F644 F643 V645 (by decide) (by decide) (by decide) (by decide) (nn := 19) (by decide) rfl (hz _ rfl) (rest := [(.ref x642)]) rfl (W := 1) (Own.hw0 rfl rfl) (hb hby at_213) (by decide) (by decide) (by decide) (by decide) (fun T646 h646 y646 S646 J646 u646 St646 => ?_)
          refine hG.st (fun t q => XS.astore S646.here hx rfl (hb hby at_216) rfl rfl (l' := #[iv q0, iv q1, iv q2, iv q3, iv q4, iv q5, iv kk, iv mu1, iv cN, iv 1, iv mu2, iv cM, rv b12, rv xn, iv it1, rv x639, iv ((q4 &&& (2147483647 : Int32)) % (19 : Int32)), iv o17, rv x642, .unset, .unset]) rfl (XS.iload S646.here hx rfl (hb hby at_218) rfl (XS.ifYes S646.here hx rfl (pc0 := 220) (pc' := 230) rfl (hb hby at_220) rfl ((if0 _ _).trans (teq (hc197 : mu2 = (0 : Int32))).1) (by decide) (by decide) (XS.iconst S646.here hx rfl (hb hby at_230) (XS.goto S646.here hx rfl (pc0 := 231) (pc' := 235) rfl (hb hby at_231) (by decide) (by decide) (XS.istore S646.here hx rfl (hb hby at_235) rfl (l' := #[iv q0, iv q1, iv q2, iv q3, iv q4, iv q5, iv kk, iv mu1, iv cN, iv 1, iv mu2, iv cM, rv b12, rv xn, iv it1, rv x639, iv ((q4 &&& (2147483647 : Int32)) % (19 : Int32)), iv o17, rv x642, iv 1, .unset]) rfl q)))))) ?_
          show G T646 (mkF m 237 #[iv q0, iv q1, iv q2, iv q3, iv q4, iv q5, iv kk, iv mu1, iv cN, iv 1, iv mu2, iv cM, rv b12, rv xn, iv it1, rv x639, iv ((q4 &&& (2147483647 : Int32)) % (19 : Int32)), iv o17, rv x642, iv 1, .unset] [])
          have J647 : Own.Stp Z consts_1 vm602 h602 vm639 h642 [] := Own.Stp.trans J639 J642 (all0) all0
          have J648 : Own.Stp Z consts_1 vm602 h602 vm639 h646 [] := Own.Stp.trans J647 J646 (all0) (allS (Or.inr (Nat.le_trans J639.1.1 (Nat.le_of_eq g_x642.symm))) all0)
          have St649 := J648.str SN nin0 nin0
          have J650 : Own.Stp Z consts_1 vm564 h564 vm639 h639 [] := Own.Stp.trans J602 J639 (all0) all0
          have J651 : Own.Stp Z consts_1 vm564 h564 vm639 h642 [] := Own.Stp.trans J650 J642 (all0) all0
          have J652 : Own.Stp Z consts_1 vm564 h564 vm639 h646 [] := Own.Stp.trans J651 J646 (all0) (allS (Or.inr (Nat.le_trans J650.1.1 (Nat.le_of_eq g_x642.symm))) all0)
          exact JA vm639 T646 h646 kk (1 : Int32) b12 xn tn csn it1 x639 ((q4 &&& (2147483647 : Int32)) % (19 : Int32)) o17 x642 y646 own_M1 (1 : Int32) (S646.mono (by decide) (by decide)) J652 St649 St646 hPn own_Pm1
        ·
          refine hG.st (fun t q => XS.ifNo S639.here hx rfl (hb hby at_197) rfl ((if0 _ _).trans (feq hc197).1) (XS.aload S639.here hx rfl (hb hby at_200) rfl rfl (XS.iload S639.here hx rfl (hb hby at_202) rfl (XS.iload S639.here hx rfl (hb hby at_204) rfl q)))) ?_
          show G T639 (mkF m 206 #[iv q0, iv q1, iv q2, iv q3, iv q4, iv q5, iv kk, iv mu1, iv cN, iv 1, iv mu2, iv cM, rv b12, rv xn, iv it1, rv x639, iv ((q4 &&& (2147483647 : Int32)) % (19 : Int32)), iv o17, .unset, .unset, .unset] [(.int cM), (.int ((q4 &&& (2147483647 : Int32)) % (19 : Int32))), (.ref x639)])
          refine Own.Sit.stC hG S639 hx V639 ga_x639 (own_ix _ (19 : Int32) (by decide)) ((q4 &&& (2147483647 : Int32)) % (19 : Int32)).toNatClampNeg rfl (by rw [List.length_map]; exact (own_ixn (n := (19 : Int32)) (own_ix _ (19 : Int32) (by decide)) (by decide))) rfl rfl (hb hby at_206) (fun T653 h653 S653 J653 V653 => ?_)
          rw [own_nar rcM, ← List.map_set] at V653
          show G T653 (mkF m 207 #[iv q0, iv q1, iv q2, iv q3, iv q4, iv q5, iv kk, iv mu1, iv cN, iv 1, iv mu2, iv cM, rv b12, rv xn, iv it1, rv x639, iv ((q4 &&& (2147483647 : Int32)) % (19 : Int32)), iv o17, .unset, .unset, .unset] [])
          refine Own.Sit.newO hG S653 hx (hW 6 _ rfl) (hW 7 _ rfl) (hW 8 _ rfl) rfl (hb hby at_207) (by decide) (by decide) (fun T654 h654 x654 g_x654 S654 J654 Sf654 E654 D654 => ?_)
          have lt_x654 := E654.lt
          have ga_x654 : Z.heap.size ≤ x654 := Nat.le_trans S653.le (Nat.le_of_eq g_x654.symm)
          have F655 : Fld Z h654 x654 "java/lang/String" "coder" "B" (.int 0) := D654 (Or.inr (hW 32 _ rfl)) (ty := .byte) (by decide)
          have F656 : Fld Z h654 x654 "java/lang/String" "value" "[B" .null := D654 (Or.inr (hW 34 _ rfl)) (ty := (.array .byte)) (by decide)
          refine hG.st (fun t q => XS.dup S654.here hx rfl (hb hby at_210) rfl rfl (XS.aload S654.here hx rfl (hb hby at_211) rfl rfl q)) ?_
          show G T654 (mkF m 213 #[iv q0, iv q1, iv q2, iv q3, iv q4, iv q5, iv kk, iv mu1, iv cN, iv 1, iv mu2, iv cM, rv b12, rv xn, iv it1, rv x639, iv ((q4 &&& (2147483647 : Int32)) % (19 : Int32)), iv o17, .unset, .unset, .unset] [(.ref x639), (.ref x654), (.ref x654)])
          have V657 := J654.arv V653 nin0
          refine Own.Sit.newStr hG S654 hx hWs hCm (hW 7 _ rfl) (hW 9 _ rfl) (hW 10 _ rfl) (cs := (own_M1.set ((q4 &&& (2147483647 : Int32)) % (19 : Int32)).toNatClampNeg cM)) ga_x654 Sf654 E654 F656 F655 V657 (by rw [List.length_set]; decide) (by rw [List.length_set]; decide) (by rw [List.length_set]; decide) (own_setr (by decide) rcM) (nn := 19) (by rw [List.length_set]; decide) rfl (hz _ rfl) (rest := [(.ref x654)]) rfl (W := 1) (Own.hw0 rfl rfl) (hb hby at_213) (by decide) (by decide) (by decide) (by decide) (fun T658 h658 y658 S658 J658 u658 St658 => ?_)
          refine hG.st (fun t q => XS.astore S658.here hx rfl (hb hby at_216) rfl rfl (l' := #[iv q0, iv q1, iv q2, iv q3, iv q4, iv q5, iv kk, iv mu1, iv cN, iv 1, iv mu2, iv cM, rv b12, rv xn, iv it1, rv x639, iv ((q4 &&& (2147483647 : Int32)) % (19 : Int32)), iv o17, rv x654, .unset, .unset]) rfl (XS.iload S658.here hx rfl (hb hby at_218) rfl (XS.ifNo S658.here hx rfl (hb hby at_220) rfl ((if0 _ _).trans (feq (hc197 : ¬ (mu2 = (0 : Int32)))).1) (XS.iload S658.here hx rfl (hb hby at_223) rfl (XS.iload S658.here hx rfl (hb hby at_225) rfl q))))) ?_
          show G T658 (mkF m 227 #[iv q0, iv q1, iv q2, iv q3, iv q4, iv q5, iv kk, iv mu1, iv cN, iv 1, iv mu2, iv cM, rv b12, rv xn, iv it1, rv x639, iv ((q4 &&& (2147483647 : Int32)) % (19 : Int32)), iv o17, rv x654, .unset, .unset] [(.int o17), (.int cM)])
          by_cases hc227 : cM = o17
          ·
            refine hG.st (fun t q => XS.icmpNo S658.here hx rfl (hb hby at_227) rfl (teq hc227).2 (XS.iconst S658.here hx rfl (hb hby at_230) (XS.goto S658.here hx rfl (pc0 := 231) (pc' := 235) rfl (hb hby at_231) (by decide) (by decide) (XS.istore S658.here hx rfl (hb hby at_235) rfl (l' := #[iv q0, iv q1, iv q2, iv q3, iv q4, iv q5, iv kk, iv mu1, iv cN, iv 1, iv mu2, iv cM, rv b12, rv xn, iv it1, rv x639, iv ((q4 &&& (2147483647 : Int32)) % (19 : Int32)), iv o17, rv x654, iv 1, .unset]) rfl q)))) ?_
            show G T658 (mkF m 237 #[iv q0, iv q1, iv q2, iv q3, iv q4, iv q5, iv kk, iv mu1, iv cN, iv 1, iv mu2, iv cM, rv b12, rv xn, iv it1, rv x639, iv ((q4 &&& (2147483647 : Int32)) % (19 : Int32)), iv o17, rv x654, iv 1, .unset] [])
            have J659 : Own.Stp Z consts_1 vm602 h602 vm639 h653 [] := Own.Stp.trans J639 J653 (all0) (allS (Or.inr u639) all0)
            have J660 : Own.Stp Z consts_1 vm602 h602 vm639 h654 [] := Own.Stp.trans J659 J654 (all0) all0
            have J661 : Own.Stp Z consts_1 vm602 h602 vm639 h658 [] := Own.Stp.trans J660 J658 (all0) (allS (Or.inr (Nat.le_trans J659.1.1 (Nat.le_of_eq g_x654.symm))) all0)
            have St662 := J661.str SN nin0 nin0
            have J663 : Own.Stp Z consts_1 vm564 h564 vm639 h639 [] := Own.Stp.trans J602 J639 (all0) all0
            have J664 : Own.Stp Z consts_1 vm564 h564 vm639 h653 [] := Own.Stp.trans J663 J653 (all0) (allS (Or.inr (Nat.le_trans J602.1.1 u639)) all0)
            have J665 : Own.Stp Z consts_1 vm564 h564 vm639 h654 [] := Own.Stp.trans J664 J654 (all0) all0
            have J666 : Own.Stp Z consts_1 vm564 h564 vm639 h658 [] := Own.Stp.trans J665 J658 (all0) (allS (Or.inr (Nat.le_trans J664.1.1 (Nat.le_of_eq g_x654.symm))) all0)
            exact JA vm639 T658 h658 kk (1 : Int32) b12 xn tn csn it1 x639 ((q4 &&& (2147483647 : Int32)) % (19 : Int32)) o17 x654 y658 (own_M1.set ((q4 &&& (2147483647 : Int32)) % (19 : Int32)).toNatClampNeg cM) (1 : Int32) (S658.mono (by decide) (by decide)) J666 St662 St658 hPn (own_Pm1s (own_ixn (n := (19 : Int32)) (own_ix _ (19 : Int32) (by decide)) (by decide)) (by rw [← eo17]; exact ⟨fun _ => hc227, fun _ => by decide⟩))
          ·
            refine hG.st (fun t q => XS.icmpYes S658.here hx rfl (pc0 := 227) (pc' := 234) rfl (hb hby at_227) rfl (feq hc227).2 (by decide) (by decide) (XS.iconst S658.here hx rfl (hb hby at_234) (XS.istore S658.here hx rfl (hb hby at_235) rfl (l' := #[iv q0, iv q1, iv q2, iv q3, iv q4, iv q5, iv kk, iv mu1, iv cN, iv 1, iv mu2, iv cM, rv b12, rv xn, iv it1, rv x639, iv ((q4 &&& (2147483647 : Int32)) % (19 : Int32)), iv o17, rv x654, iv 0, .unset]) rfl q))) ?_
            show G T658 (mkF m 237 #[iv q0, iv q1, iv q2, iv q3, iv q4, iv q5, iv kk, iv mu1, iv cN, iv 1, iv mu2, iv cM, rv b12, rv xn, iv it1, rv x639, iv ((q4 &&& (2147483647 : Int32)) % (19 : Int32)), iv o17, rv x654, iv 0, .unset] [])
            have J667 : Own.Stp Z consts_1 vm602 h602 vm639 h653 [] := Own.Stp.trans J639 J653 (all0) (allS (Or.inr u639) all0)
            have J668 : Own.Stp Z consts_1 vm602 h602 vm639 h654 [] := Own.Stp.trans J667 J654 (all0) all0
            have J669 : Own.Stp Z consts_1 vm602 h602 vm639 h658 [] := Own.Stp.trans J668 J658 (all0) (allS (Or.inr (Nat.le_trans J667.1.1 (Nat.le_of_eq g_x654.symm))) all0)
            have St670 := J669.str SN nin0 nin0
            have J671 : Own.Stp Z consts_1 vm564 h564 vm639 h639 [] := Own.Stp.trans J602 J639 (all0) all0
            have J672 : Own.Stp Z consts_1 vm564 h564 vm639 h653 [] := Own.Stp.trans J671 J653 (all0) (allS (Or.inr (Nat.le_trans J602.1.1 u639)) all0)
            have J673 : Own.Stp Z consts_1 vm564 h564 vm639 h654 [] := Own.Stp.trans J672 J654 (all0) all0
            have J674 : Own.Stp Z consts_1 vm564 h564 vm639 h658 [] := Own.Stp.trans J673 J658 (all0) (allS (Or.inr (Nat.le_trans J672.1.1 (Nat.le_of_eq g_x654.symm))) all0)
            exact JA vm639 T658 h658 kk (1 : Int32) b12 xn tn csn it1 x639 ((q4 &&& (2147483647 : Int32)) % (19 : Int32)) o17 x654 y658 (own_M1.set ((q4 &&& (2147483647 : Int32)) % (19 : Int32)).toNatClampNeg cM) (0 : Int32) (S658.mono (by decide) (by decide)) J674 St670 St658 hPn (own_Pm1s (own_ixn (n := (19 : Int32)) (own_ix _ (19 : Int32) (by decide)) (by decide)) (by rw [← eo17]; exact ⟨fun z => absurd rfl z, fun z => absurd z hc227⟩))
      by_cases hm2 : m0 = (2 : Int32)
      ·
        rw [hm2]
        show G T602 (mkF m 170 #[iv q0, iv q1, iv q2, iv q3, iv q4, iv q5, iv kk, iv mu1, iv cN, iv 2, iv mu2, iv cM, rv b12, rv xn, iv it1, s15, s16, .unset, .unset, .unset, .unset] [])
        refine hG.st (fun t q => XS.iload S602.here hx rfl (hb hby at_170) rfl q) ?_
        show G T602 (mkF m 172 #[iv q0, iv q1, iv q2, iv q3, iv q4, iv q5, iv kk, iv mu1, iv cN, iv 2, iv mu2, iv cM, rv b12, rv xn, iv it1, s15, s16, .unset, .unset, .unset, .unset] [(.int 2)])
        refine Own.Sit.callS hG S602 hx hEL (as := [(.int 2)]) (hW 35 _ rfl) (hW 36 _ rfl) (hW 2 _ rfl) (hW 37 _ rfl) (by decide) (own_nm2 l Z a0 H h602 S602.old) own_pd864215 rfl rfl (hz _ rfl) (rest := []) rfl (W := 0) (Own.hw0 rfl rfl) (hb hby at_172) (by decide) (by decide) (by decide) (by decide) (fun v675 vm675 T675 h675 S675 C675 q675 => ?_)
        obtain ⟨K675, x675, k675, rfl, u675, V675⟩ := q675
        have J675 : Own.Stp Z consts_1 vm602 h602 vm675 h675 [] := ⟨K675, C675⟩
        have ga_x675 : Z.heap.size ≤ x675 := Nat.le_trans S602.le u675
        refine hG.st (fun t q => XS.astore S675.here hx rfl (hb hby at_175) rfl rfl (l' := #[iv q0, iv q1, iv q2, iv q3, iv q4, iv q5, iv kk, iv mu1, iv cN, iv 2, iv mu2, iv cM, rv b12, rv xn, iv it1, rv x675, s16, .unset, .unset, .unset, .unset]) (own_os676 ho15) (XS.iload S675.here hx rfl (hb hby at_177) rfl q)) ?_
        show G T675 (mkF m 179 #[iv q0, iv q1, iv q2, iv q3, iv q4, iv q5, iv kk, iv mu1, iv cN, iv 2, iv mu2, iv cM, rv b12, rv xn, iv it1, rv x675, s16, .unset, .unset, .unset, .unset] [(.int q4)])
        refine Own.Sit.ldcI hG S675 hx (hW 5 _ rfl) rfl (hb hby at_179) ?_
        show G T675 (mkF m 181 #[iv q0, iv q1, iv q2, iv q3, iv q4, iv q5, iv kk, iv mu1, iv cN, iv 2, iv mu2, iv cM, rv b12, rv xn, iv it1, rv x675, s16, .unset, .unset, .unset, .unset] [(.int 2147483647), (.int q4)])
        refine hG.st (fun t q => XS.iand S675.here hx rfl (hb hby at_181) rfl (XS.aload S675.here hx rfl (hb hby at_182) rfl rfl q)) ?_
        show G T675 (mkF m 184 #[iv q0, iv q1, iv q2, iv q3, iv q4, iv q5, iv kk, iv mu1, iv cN, iv 2, iv mu2, iv cM, rv b12, rv xn, iv it1, rv x675, s16, .unset, .unset, .unset, .unset] [(.ref x675), (.int (q4 &&& (2147483647 : Int32)))])
        refine Own.Sit.arraylength hG S675 hx V675 rfl rfl (hb hby at_184) ?_
        show G T675 (mkF m 185 #[iv q0, iv q1, iv q2, iv q3, iv q4, iv q5, iv kk, iv mu1, iv cN, iv 2, iv mu2, iv cM, rv b12, rv xn, iv it1, rv x675, s16, .unset, .unset, .unset, .unset] [(.int 8), (.int (q4 &&& (2147483647 : Int32)))])
        refine hG.st (fun t q => Own.irem S675.here hx rfl (hb hby at_185) rfl (by decide) (XS.istore S675.here hx rfl (hb hby at_186) rfl (l' := #[iv q0, iv q1, iv q2, iv q3, iv q4, iv q5, iv kk, iv mu1, iv cN, iv 2, iv mu2, iv cM, rv b12, rv xn, iv it1, rv x675, iv ((q4 &&& (2147483647 : Int32)) % (8 : Int32)), .unset, .unset, .unset, .unset]) (own_os677 ho16) (XS.aload S675.here hx rfl (hb hby at_188) rfl rfl (XS.iload S675.here hx rfl (hb hby at_190) rfl q)))) ?_
        show G T675 (mkF m 192 #[iv q0, iv q1, iv q2, iv q3, iv q4, iv q5, iv kk, iv mu1, iv cN, iv 2, iv mu2, iv cM, rv b12, rv xn, iv it1, rv x675, iv ((q4 &&& (2147483647 : Int32)) % (8 : Int32)), .unset, .unset, .unset, .unset] [(.int ((q4 &&& (2147483647 : Int32)) % (8 : Int32))), (.ref x675)])
        refine Own.Sit.caload hG S675 hx V675 (own_ix _ (8 : Int32) (by decide)) (own_get (cs := own_M2) (own_ixn (n := (8 : Int32)) (own_ix _ (8 : Int32) (by decide)) (by decide))) rfl rfl (hb hby at_192) ?_
        obtain ⟨o17, eo17⟩ : ∃ z, z = own_M2.getD ((q4 &&& (2147483647 : Int32)) % (8 : Int32)).toNatClampNeg 0 := ⟨_, rfl⟩
        rw [← eo17]
        show G T675 (mkF m 193 #[iv q0, iv q1, iv q2, iv q3, iv q4, iv q5, iv kk, iv mu1, iv cN, iv 2, iv mu2, iv cM, rv b12, rv xn, iv it1, rv x675, iv ((q4 &&& (2147483647 : Int32)) % (8 : Int32)), .unset, .unset, .unset, .unset] [(.int o17)])
        refine hG.st (fun t q => XS.istore S675.here hx rfl (hb hby at_193) rfl (l' := #[iv q0, iv q1, iv q2, iv q3, iv q4, iv q5, iv kk, iv mu1, iv cN, iv 2, iv mu2, iv cM, rv b12, rv xn, iv it1, rv x675, iv ((q4 &&& (2147483647 : Int32)) % (8 : Int32)), iv o17, .unset, .unset, .unset]) rfl (XS.iload S675.here hx rfl (hb hby at_195) rfl q)) ?_
        show G T675 (mkF m 197 #[iv q0, iv q1, iv q2, iv q3, iv q4, iv q5, iv kk, iv mu1, iv cN, iv 2, iv mu2, iv cM, rv b12, rv xn, iv it1, rv x675, iv ((q4 &&& (2147483647 : Int32)) % (8 : Int32)), iv o17, .unset, .unset, .unset] [(.int mu2)])
        by_cases hc197 : mu2 = (0 : Int32)
        ·
          refine hG.st (fun t q => XS.ifYes S675.here hx rfl (pc0 := 197) (pc' := 207) rfl (hb hby at_197) rfl ((if0 _ _).trans (teq hc197).1) (by decide) (by decide) q) ?_
          show G T675 (mkF m 207 #[iv q0, iv q1, iv q2, iv q3, iv q4, iv q5, iv kk, iv mu1, iv cN, iv 2, iv mu2, iv cM, rv b12, rv xn, iv it1, rv x675, iv ((q4 &&& (2147483647 : Int32)) % (8 : Int32)), iv o17, .unset, .unset, .unset] [])
          refine Own.Sit.newO hG S675 hx (hW 6 _ rfl) (hW 7 _ rfl) (hW 8 _ rfl) rfl (hb hby at_207) (by decide) (by decide) (fun T678 h678 x678 g_x678 S678 J678 Sf678 E678 D678 => ?_)
          have lt_x678 := E678.lt
          have ga_x678 : Z.heap.size ≤ x678 := Nat.le_trans S675.le (Nat.le_of_eq g_x678.symm)
          have F679 : Fld Z h678 x678 "java/lang/String" "coder" "B" (.int 0) := D678 (Or.inr (hW 32 _ rfl)) (ty := .byte) (by decide)
          have F680 : Fld Z h678 x678 "java/lang/String" "value" "[B" .null := D678 (Or.inr (hW 34 _ rfl)) (ty := (.array .byte)) (by decide)
          refine hG.st (fun t q => XS.dup S678.here hx rfl (hb hby at_210) rfl rfl (XS.aload S678.here hx rfl (hb hby at_211) rfl rfl q)) ?_
          show G T678 (mkF m 213 #[iv q0, iv q1, iv q2, iv q3, iv q4, iv q5, iv kk, iv mu1, iv cN, iv 2, iv mu2, iv cM, rv b12, rv xn, iv it1, rv x675, iv ((q4 &&& (2147483647 : Int32)) % (8 : Int32)), iv o17, .unset, .unset, .unset] [(.ref x675), (.ref x678), (.ref x678)])
          have V681 := J678.arv V675 nin0
          refine Own.Sit.newStr hG S678 hx hWs hCm (hW 7 _ rfl) (hW 9 _ rfl) (hW 10 _ rfl) (cs := own_M2) ga_x678 Sf678 E678 F680 F679 V681 (by decide) (by decide) (by decide) (by decide) (nn := 8) (by decide) rfl (hz _ rfl) (rest := [(.ref x678)]) rfl (W := 1) (Own.hw0 rfl rfl) (hb hby at_213) (by decide) (by decide) (by decide) (by decide) (fun T682 h682 y682 S682 J682 u682 St682 => ?_)
          refine hG.st (fun t q => XS.astore S682.here hx rfl (hb hby at_216) rfl rfl (l' := #[iv q0, iv q1, iv q2, iv q3, iv q4, iv q5, iv kk, iv mu1, iv cN, iv 2, iv mu2, iv cM, rv b12, rv xn, iv it1, rv x675, iv ((q4 &&& (2147483647 : Int32)) % (8 : Int32)), iv o17, rv x678, .unset, .unset]) rfl (XS.iload S682.here hx rfl (hb hby at_218) rfl (XS.ifYes S682.here hx rfl (pc0 := 220) (pc' := 230) rfl (hb hby at_220) rfl ((if0 _ _).trans (teq (hc197 : mu2 = (0 : Int32))).1) (by decide) (by decide) (XS.iconst S682.here hx rfl (hb hby at_230) (XS.goto S682.here hx rfl (pc0 := 231) (pc' := 235) rfl (hb hby at_231) (by decide) (by decide) (XS.istore S682.here hx rfl (hb hby at_235) rfl (l' := #[iv q0, iv q1, iv q2, iv q3, iv q4, iv q5, iv kk, iv mu1, iv cN, iv 2, iv mu2, iv cM, rv b12, rv xn, iv it1, rv x675, iv ((q4 &&& (2147483647 : Int32)) % (8 : Int32)), iv o17, rv x678, iv 1, .unset]) rfl q)))))) ?_
          show G T682 (mkF m 237 #[iv q0, iv q1, iv q2, iv q3, iv q4, iv q5, iv kk, iv mu1, iv cN, iv 2, iv mu2, iv cM, rv b12, rv xn, iv it1, rv x675, iv ((q4 &&& (2147483647 : Int32)) % (8 : Int32)), iv o17, rv x678, iv 1, .unset] [])
          have J683 : Own.Stp Z consts_1 vm602 h602 vm675 h678 [] := Own.Stp.trans J675 J678 (all0) all0
          have J684 : Own.Stp Z consts_1 vm602 h602 vm675 h682 [] := Own.Stp.trans J683 J682 (all0) (allS (Or.inr (Nat.le_trans J675.1.1 (Nat.le_of_eq g_x678.symm))) all0)
          have St685 := J684.str SN nin0 nin0
          have J686 : Own.Stp Z consts_1 vm564 h564 vm675 h675 [] := Own.Stp.trans J602 J675 (all0) all0
          have J687 : Own.Stp Z consts_1 vm564 h564 vm675 h678 [] := Own.Stp.trans J686 J678 (all0) all0
          have J688 : Own.Stp Z consts_1 vm564 h564 vm675 h682 [] := Own.Stp.trans J687 J682 (all0) (allS (Or.inr (Nat.le_trans J686.1.1 (Nat.le_of_eq g_x678.symm))) all0)
          exact JA vm675 T682 h682 kk (2 : Int32) b12 xn tn csn it1 x675 ((q4 &&& (2147483647 : Int32)) % (8 : Int32)) o17 x678 y682 own_M2 (1 : Int32) (S682.mono (by decide) (by decide)) J688 St685 St682 hPn own_Pm2
        ·
          refine hG.st (fun t q => XS.ifNo S675.here hx rfl (hb hby at_197) rfl ((if0 _ _).trans (feq hc197).1) (XS.aload S675.here hx rfl (hb hby at_200) rfl rfl (XS.iload S675.here hx rfl (hb hby at_202) rfl (XS.iload S675.here hx rfl (hb hby at_204) rfl q)))) ?_
          show G T675 (mkF m 206 #[iv q0, iv q1, iv q2, iv q3, iv q4, iv q5, iv kk, iv mu1, iv cN, iv 2, iv mu2, iv cM, rv b12, rv xn, iv it1, rv x675, iv ((q4 &&& (2147483647 : Int32)) % (8 : Int32)), iv o17, .unset, .unset, .unset] [(.int cM), (.int ((q4 &&& (2147483647 : Int32)) % (8 : Int32))), (.ref x675)])
          refine Own.Sit.stC hG S675 hx V675 ga_x675 (own_ix _ (8 : Int32) (by decide)) ((q4 &&& (2147483647 : Int32)) % (8 : Int32)).toNatClampNeg rfl (by rw [List.length_map]; exact (own_ixn (n := (8 : Int32)) (own_ix _ (8 : Int32) (by decide)) (by decide))) rfl rfl (hb hby at_206) (fun T689 h689 S689 J689 V689 => ?_)
          rw [own_nar rcM, ← List.map_set] at V689
          show G T689 (mkF m 207 #[iv q0, iv q1, iv q2, iv q3, iv q4, iv q5, iv kk, iv mu1, iv cN, iv 2, iv mu2, iv cM, rv b12, rv xn, iv it1, rv x675, iv ((q4 &&& (2147483647 : Int32)) % (8 : Int32)), iv o17, .unset, .unset, .unset] [])
          refine Own.Sit.newO hG S689 hx (hW 6 _ rfl) (hW 7 _ rfl) (hW 8 _ rfl) rfl (hb hby at_207) (by decide) (by decide) (fun T690 h690 x690 g_x690 S690 J690 Sf690 E690 D690 => ?_)
          have lt_x690 := E690.lt
          have ga_x690 : Z.heap.size ≤ x690 := Nat.le_trans S689.le (Nat.le_of_eq g_x690.symm)
          have F691 : Fld Z h690 x690 "java/lang/String" "coder" "B" (.int 0) := D690 (Or.inr (hW 32 _ rfl)) (ty := .byte) (by decide)
          have F692 : Fld Z h690 x690 "java/lang/String" "value" "[B" .null := D690 (Or.inr (hW 34 _ rfl)) (ty := (.array .byte)) (by decide)
          refine hG.st (fun t q => XS.dup S690.here hx rfl (hb hby at_210) rfl rfl (XS.aload S690.here hx rfl (hb hby at_211) rfl rfl q)) ?_
          show G T690 (mkF m 213 #[iv q0, iv q1, iv q2, iv q3, iv q4, iv q5, iv kk, iv mu1, iv cN, iv 2, iv mu2, iv cM, rv b12, rv xn, iv it1, rv x675, iv ((q4 &&& (2147483647 : Int32)) % (8 : Int32)), iv o17, .unset, .unset, .unset] [(.ref x675), (.ref x690), (.ref x690)])
          have V693 := J690.arv V689 nin0
          refine Own.Sit.newStr hG S690 hx hWs hCm (hW 7 _ rfl) (hW 9 _ rfl) (hW 10 _ rfl) (cs := (own_M2.set ((q4 &&& (2147483647 : Int32)) % (8 : Int32)).toNatClampNeg cM)) ga_x690 Sf690 E690 F692 F691 V693 (by rw [List.length_set]; decide) (by rw [List.length_set]; decide) (by rw [List.length_set]; decide) (own_setr (by decide) rcM) (nn := 8) (by rw [List.length_set]; decide) rfl (hz _ rfl) (rest := [(.ref x690)]) rfl (W := 1) (Own.hw0 rfl rfl) (hb hby at_213) (by decide) (by decide) (by decide) (by decide) (fun T694 h694 y694 S694 J694 u694 St694 => ?_)
          refine hG.st (fun t q => XS.astore S694.here hx rfl (hb hby at_216) rfl rfl (l' := #[iv q0, iv q1, iv q2, iv q3, iv q4, iv q5, iv kk, iv mu1, iv cN, iv 2, iv mu2, iv cM, rv b12, rv xn, iv it1, rv x675, iv ((q4 &&& (2147483647 : Int32)) % (8 : Int32)), iv o17, rv x690, .unset, .unset]) rfl (XS.iload S694.here hx rfl (hb hby at_218) rfl (XS.ifNo S694.here hx rfl (hb hby at_220) rfl ((if0 _ _).trans (feq (hc197 : ¬ (mu2 = (0 : Int32)))).1) (XS.iload S694.here hx rfl (hb hby at_223) rfl (XS.iload S694.here hx rfl (hb hby at_225) rfl q))))) ?_
          show G T694 (mkF m 227 #[iv q0, iv q1, iv q2, iv q3, iv q4, iv q5, iv kk, iv mu1, iv cN, iv 2, iv mu2, iv cM, rv b12, rv xn, iv it1, rv x675, iv ((q4 &&& (2147483647 : Int32)) % (8 : Int32)), iv o17, rv x690, .unset, .unset] [(.int o17), (.int cM)])
          by_cases hc227 : cM = o17
          ·
            refine hG.st (fun t q => XS.icmpNo S694.here hx rfl (hb hby at_227) rfl (teq hc227).2 (XS.iconst S694.here hx rfl (hb hby at_230) (XS.goto S694.here hx rfl (pc0 := 231) (pc' := 235) rfl (hb hby at_231) (by decide) (by decide) (XS.istore S694.here hx rfl (hb hby at_235) rfl (l' := #[iv q0, iv q1, iv q2, iv q3, iv q4, iv q5, iv kk, iv mu1, iv cN, iv 2, iv mu2, iv cM, rv b12, rv xn, iv it1, rv x675, iv ((q4 &&& (2147483647 : Int32)) % (8 : Int32)), iv o17, rv x690, iv 1, .unset]) rfl q)))) ?_
            show G T694 (mkF m 237 #[iv q0, iv q1, iv q2, iv q3, iv q4, iv q5, iv kk, iv mu1, iv cN, iv 2, iv mu2, iv cM, rv b12, rv xn, iv it1, rv x675, iv ((q4 &&& (2147483647 : Int32)) % (8 : Int32)), iv o17, rv x690, iv 1, .unset] [])
            have J695 : Own.Stp Z consts_1 vm602 h602 vm675 h689 [] := Own.Stp.trans J675 J689 (all0) (allS (Or.inr u675) all0)
            have J696 : Own.Stp Z consts_1 vm602 h602 vm675 h690 [] := Own.Stp.trans J695 J690 (all0) all0
            have J697 : Own.Stp Z consts_1 vm602 h602 vm675 h694 [] := Own.Stp.trans J696 J694 (all0) (allS (Or.inr (Nat.le_trans J695.1.1 (Nat.le_of_eq g_x690.symm))) all0)
            have St698 := J697.str SN nin0 nin0
            have J699 : Own.Stp Z consts_1 vm564 h564 vm675 h675 [] := Own.Stp.trans J602 J675 (all0) all0
            have J700 : Own.Stp Z consts_1 vm564 h564 vm675 h689 [] := Own.Stp.trans J699 J689 (all0) (allS (Or.inr (Nat.le_trans J602.1.1 u675)) all0)
            have J701 : Own.Stp Z consts_1 vm564 h564 vm675 h690 [] := Own.Stp.trans J700 J690 (all0) all0
            have J702 : Own.Stp Z consts_1 vm564 h564 vm675 h694 [] := Own.Stp.trans J701 J694 (all0) (allS (Or.inr (Nat.le_trans J700.1.1 (Nat.le_of_eq g_x690.symm))) all0)
            exact JA vm675 T694 h694 kk (2 : Int32) b12 xn tn csn it1 x675 ((q4 &&& (2147483647 : Int32)) % (8 : Int32)) o17 x690 y694 (own_M2.set ((q4 &&& (2147483647 : Int32)) % (8 : Int32)).toNatClampNeg cM) (1 : Int32) (S694.mono (by decide) (by decide)) J702 St698 St694 hPn (own_Pm2s (own_ixn (n := (8 : Int32)) (own_ix _ (8 : Int32) (by decide)) (by decide)) (by rw [← eo17]; exact ⟨fun _ => hc227, fun _ => by decide⟩))
          ·
            refine hG.st (fun t q => XS.icmpYes S694.here hx rfl (pc0 := 227) (pc' := 234) rfl (hb hby at_227) rfl (feq hc227).2 (by decide) (by decide) (XS.iconst S694.here hx rfl (hb hby at_234) (XS.istore S694.here hx rfl (hb hby at_235) rfl (l' := #[iv q0, iv q1, iv q2, iv q3, iv q4, iv q5, iv kk, iv mu1, iv cN, iv 2, iv mu2, iv cM, rv b12, rv xn, iv it1, rv x675, iv ((q4 &&& (2147483647 : Int32)) % (8 : Int32)), iv o17, rv x690, iv 0, .unset]) rfl q))) ?_
            show G T694 (mkF m 237 #[iv q0, iv q1, iv q2, iv q3, iv q4, iv q5, iv kk, iv mu1, iv cN, iv 2, iv mu2, iv cM, rv b12, rv xn, iv it1, rv x675, iv ((q4 &&& (2147483647 : Int32)) % (8 : Int32)), iv o17, rv x690, iv 0, .unset] [])
            have J703 : Own.Stp Z consts_1 vm602 h602 vm675 h689 [] := Own.Stp.trans J675 J689 (all0) (allS (Or.inr u675) all0)
            have J704 : Own.Stp Z consts_1 vm602 h602 vm675 h690 [] := Own.Stp.trans J703 J690 (all0) all0
            have J705 : Own.Stp Z consts_1 vm602 h602 vm675 h694 [] := Own.Stp.trans J704 J694 (all0) (allS (Or.inr (Nat.le_trans J703.1.1 (Nat.le_of_eq g_x690.symm))) all0)
            have St706 := J705.str SN nin0 nin0
            have J707 : Own.Stp Z consts_1 vm564 h564 vm675 h675 [] := Own.Stp.trans J602 J675 (all0) all0
            have J708 : Own.Stp Z consts_1 vm564 h564 vm675 h689 [] := Own.Stp.trans J707 J689 (all0) (allS (Or.inr (Nat.le_trans J602.1.1 u675)) all0)
            have J709 : Own.Stp Z consts_1 vm564 h564 vm675 h690 [] := Own.Stp.trans J708 J690 (all0) all0
            have J710 : Own.Stp Z consts_1 vm564 h564 vm675 h694 [] := Own.Stp.trans J709 J694 (all0) (allS (Or.inr (Nat.le_trans J708.1.1 (Nat.le_of_eq g_x690.symm))) all0)
            exact JA vm675 T694 h694 kk (2 : Int32) b12 xn tn csn it1 x675 ((q4 &&& (2147483647 : Int32)) % (8 : Int32)) o17 x690 y694 (own_M2.set ((q4 &&& (2147483647 : Int32)) % (8 : Int32)).toNatClampNeg cM) (0 : Int32) (S694.mono (by decide) (by decide)) J710 St706 St694 hPn (own_Pm2s (own_ixn (n := (8 : Int32)) (own_ix _ (8 : Int32) (by decide)) (by decide)) (by rw [← eo17]; exact ⟨fun z => absurd rfl z, fun z => absurd z hc227⟩))
      by_cases hm3 : m0 = (3 : Int32)
      ·
        rw [hm3]
        show G T602 (mkF m 170 #[iv q0, iv q1, iv q2, iv q3, iv q4, iv q5, iv kk, iv mu1, iv cN, iv 3, iv mu2, iv cM, rv b12, rv xn, iv it1, s15, s16, .unset, .unset, .unset, .unset] [])
        refine hG.st (fun t q => XS.iload S602.here hx rfl (hb hby at_170) rfl q) ?_
        show G T602 (mkF m 172 #[iv q0, iv q1, iv q2, iv q3, iv q4, iv q5, iv kk, iv mu1, iv cN, iv 3, iv mu2, iv cM, rv b12, rv xn, iv it1, s15, s16, .unset, .unset, .unset, .unset] [(.int 3)])
        refine Own.Sit.callS hG S602 hx hEL (as := [(.int 3)]) (hW 35 _ rfl) (hW 36 _ rfl) (hW 2 _ rfl) (hW 37 _ rfl) (by decide) (own_nm3 l Z a0 H h602 S602.old) own_pd864215 rfl rfl (hz _ rfl) (rest := []) rfl (W := 0) (Own.hw0 rfl rfl) (hb hby at_172) (by decide) (by decide) (by decide) (by decide) (fun v711 vm711 T711 h711 S711 C711 q711 => ?_)
        obtain ⟨K711, x711, k711, rfl, u711, V711⟩ := q711
        have J711 : Own.Stp Z consts_1 vm602 h602 vm711 h711 [] := ⟨K711, C711⟩
        have ga_x711 : Z.heap.size ≤ x711 := Nat.le_trans S602.le u711
        refine hG.st (fun t q => XS.astore S711.here hx rfl (hb hby at_175) rfl rfl (l' := #[iv q0, iv q1, iv q2, iv q3, iv q4, iv q5, iv kk, iv mu1, iv cN, iv 3, iv mu2, iv cM, rv b12, rv xn, iv it1, rv x711, s16, .unset, .unset, .unset, .unset]) (own_os712 ho15) (XS.iload S711.here hx rfl (hb hby at_177) rfl q)) ?_
        show G T711 (mkF m 179 #[iv q0, iv q1, iv q2, iv q3, iv q4, iv q5, iv kk, iv mu1, iv cN, iv 3, iv mu2, iv cM, rv b12, rv xn, iv it1, rv x711, s16, .unset, .unset, .unset, .unset] [(.int q4)])
        refine Own.Sit.ldcI hG S711 hx (hW 5 _ rfl) rfl (hb hby at_179) ?_
        show G T711 (mkF m 181 #[iv q0, iv q1, iv q2, iv q3, iv q4, iv q5, iv kk, iv mu1, iv cN, iv 3, iv mu2, iv cM, rv b12, rv xn, iv it1, rv x711, s16, .unset, .unset, .unset, .unset] [(.int 2147483647), (.int q4)])
        refine hG.st (fun t q => XS.iand S711.here hx rfl (hb hby at_181) rfl (XS.aload S711.here hx rfl (hb hby at_182) rfl rfl q)) ?_
        show G T711 (mkF m 184 #[iv q0, iv q1, iv q2, iv q3, iv q4, iv q5, iv kk, iv mu1, iv cN, iv 3, iv mu2, iv cM, rv b12, rv xn, iv it1, rv x711, s16, .unset, .unset, .unset, .unset] [(.ref x711), (.int (q4 &&& (2147483647 : Int32)))])
        refine Own.Sit.arraylength hG S711 hx V711 rfl rfl (hb hby at_184) ?_
        show G T711 (mkF m 185 #[iv q0, iv q1, iv q2, iv q3, iv q4, iv q5, iv kk, iv mu1, iv cN, iv 3, iv mu2, iv cM, rv b12, rv xn, iv it1, rv x711, s16, .unset, .unset, .unset, .unset] [(.int 5), (.int (q4 &&& (2147483647 : Int32)))])
        refine hG.st (fun t q => Own.irem S711.here hx rfl (hb hby at_185) rfl (by decide) (XS.istore S711.here hx rfl (hb hby at_186) rfl (l' := #[iv q0, iv q1, iv q2, iv q3, iv q4, iv q5, iv kk, iv mu1, iv cN, iv 3, iv mu2, iv cM, rv b12, rv xn, iv it1, rv x711, iv ((q4 &&& (2147483647 : Int32)) % (5 : Int32)), .unset, .unset, .unset, .unset]) (own_os713 ho16) (XS.aload S711.here hx rfl (hb hby at_188) rfl rfl (XS.iload S711.here hx rfl (hb hby at_190) rfl q)))) ?_
        show G T711 (mkF m 192 #[iv q0, iv q1, iv q2, iv q3, iv q4, iv q5, iv kk, iv mu1, iv cN, iv 3, iv mu2, iv cM, rv b12, rv xn, iv it1, rv x711, iv ((q4 &&& (2147483647 : Int32)) % (5 : Int32)), .unset, .unset, .unset, .unset] [(.int ((q4 &&& (2147483647 : Int32)) % (5 : Int32))), (.ref x711)])
        refine Own.Sit.caload hG S711 hx V711 (own_ix _ (5 : Int32) (by decide)) (own_get (cs := own_M3) (own_ixn (n := (5 : Int32)) (own_ix _ (5 : Int32) (by decide)) (by decide))) rfl rfl (hb hby at_192) ?_
        obtain ⟨o17, eo17⟩ : ∃ z, z = own_M3.getD ((q4 &&& (2147483647 : Int32)) % (5 : Int32)).toNatClampNeg 0 := ⟨_, rfl⟩
        rw [← eo17]
        show G T711 (mkF m 193 #[iv q0, iv q1, iv q2, iv q3, iv q4, iv q5, iv kk, iv mu1, iv cN, iv 3, iv mu2, iv cM, rv b12, rv xn, iv it1, rv x711, iv ((q4 &&& (2147483647 : Int32)) % (5 : Int32)), .unset, .unset, .unset, .unset] [(.int o17)])
        refine hG.st (fun t q => XS.istore S711.here hx rfl (hb hby at_193) rfl (l' := #[iv q0, iv q1, iv q2, iv q3, iv q4, iv q5, iv kk, iv mu1, iv cN, iv 3, iv mu2, iv cM, rv b12, rv xn, iv it1, rv x711, iv ((q4 &&& (2147483647 : Int32)) % (5 : Int32)), iv o17, .unset, .unset, .unset]) rfl (XS.iload S711.here hx rfl (hb hby at_195) rfl q)) ?_
        show G T711 (mkF m 197 #[iv q0, iv q1, iv q2, iv q3, iv q4, iv q5, iv kk, iv mu1, iv cN, iv 3, iv mu2, iv cM, rv b12, rv xn, iv it1, rv x711, iv ((q4 &&& (2147483647 : Int32)) % (5 : Int32)), iv o17, .unset, .unset, .unset] [(.int mu2)])
        by_cases hc197 : mu2 = (0 : Int32)
        ·
          refine hG.st (fun t q => XS.ifYes S711.here hx rfl (pc0 := 197) (pc' := 207) rfl (hb hby at_197) rfl ((if0 _ _).trans (teq hc197).1) (by decide) (by decide) q) ?_
          show G T711 (mkF m 207 #[iv q0, iv q1, iv q2, iv q3, iv q4, iv q5, iv kk, iv mu1, iv cN, iv 3, iv mu2, iv cM, rv b12, rv xn, iv it1, rv x711, iv ((q4 &&& (2147483647 : Int32)) % (5 : Int32)), iv o17, .unset, .unset, .unset] [])
          refine Own.Sit.newO hG S711 hx (hW 6 _ rfl) (hW 7 _ rfl) (hW 8 _ rfl) rfl (hb hby at_207) (by decide) (by decide) (fun T714 h714 x714 g_x714 S714 J714 Sf714 E714 D714 => ?_)
          have lt_x714 := E714.lt
          have ga_x714 : Z.heap.size ≤ x714 := Nat.le_trans S711.le (Nat.le_of_eq g_x714.symm)
          have F715 : Fld Z h714 x714 "java/lang/String" "coder" "B" (.int 0) := D714 (Or.inr (hW 32 _ rfl)) (ty := .byte) (by decide)
          have F716 : Fld Z h714 x714 "java/lang/String" "value" "[B" .null := D714 (Or.inr (hW 34 _ rfl)) (ty := (.array .byte)) (by decide)
          refine hG.st (fun t q => XS.dup S714.here hx rfl (hb hby at_210) rfl rfl (XS.aload S714.here hx rfl (hb hby at_211) rfl rfl q)) ?_
          show G T714 (mkF m 213 #[iv q0, iv q1, iv q2, iv q3, iv q4, iv q5, iv kk, iv mu1, iv cN, iv 3, iv mu2, iv cM, rv b12, rv xn, iv it1, rv x711, iv ((q4 &&& (2147483647 : Int32)) % (5 : Int32)), iv o17, .unset, .unset, .unset] [(.ref x711), (.ref x714), (.ref x714)])
          have V717 := J714.arv V711 nin0
          refine Own.Sit.newStr hG S714 hx hWs hCm (hW 7 _ rfl) (hW 9 _ rfl) (hW 10 _ rfl) (cs := own_M3) ga_x714 Sf714 E714 F716 F715 V717 (by decide) (by decide) (by decide) (by decide) (nn := 5) (by decide) rfl (hz _ rfl) (rest := [(.ref x714)]) rfl (W := 1) (Own.hw0 rfl rfl) (hb hby at_213) (by decide) (by decide) (by decide) (by decide) (fun T718 h718 y718 S718 J718 u718 St718 => ?_)
          refine hG.st (fun t q => XS.astore S718.here hx rfl (hb hby at_216) rfl rfl (l' := #[iv q0, iv q1, iv q2, iv q3, iv q4, iv q5, iv kk, iv mu1, iv cN, iv 3, iv mu2, iv cM, rv b12, rv xn, iv it1, rv x711, iv ((q4 &&& (2147483647 : Int32)) % (5 : Int32)), iv o17, rv x714, .unset, .unset]) rfl (XS.iload S718.here hx rfl (hb hby at_218) rfl (XS.ifYes S718.here hx rfl (pc0 := 220) (pc' := 230) rfl (hb hby at_220) rfl ((if0 _ _).trans (teq (hc197 : mu2 = (0 : Int32))).1) (by decide) (by decide) (XS.iconst S718.here hx rfl (hb hby at_230) (XS.goto S718.here hx rfl (pc0 := 231) (pc' := 235) rfl (hb hby at_231) (by decide) (by decide) (XS.istore S718.here hx rfl (hb hby at_235) rfl (l' := #[iv q0, iv q1, iv q2, iv q3, iv q4, iv q5, iv kk, iv mu1, iv cN, iv 3, iv mu2, iv cM, rv b12, rv xn, iv it1, rv x711, iv ((q4 &&& (2147483647 : Int32)) % (5 : Int32)), iv o17, rv x714, iv 1, .unset]) rfl q)))))) ?_
          show G T718 (mkF m 237 #[iv q0, iv q1, iv q2, iv q3, iv q4, iv q5, iv kk, iv mu1, iv cN, iv 3, iv mu2, iv cM, rv b12, rv xn, iv it1, rv x711, iv ((q4 &&& (2147483647 : Int32)) % (5 : Int32)), iv o17, rv x714, iv 1, .unset] [])
          have J719 : Own.Stp Z consts_1 vm602 h602 vm711 h714 [] := Own.Stp.trans J711 J714 (all0) all0
          have J720 : Own.Stp Z consts_1 vm602 h602 vm711 h718 [] := Own.Stp.trans J719 J718 (all0) (allS (Or.inr (Nat.le_trans J711.1.1 (Nat.le_of_eq g_x714.symm))) all0)
          have St721 := J720.str SN nin0 nin0
          have J722 : Own.Stp Z consts_1 vm564 h564 vm711 h711 [] := Own.Stp.trans J602 J711 (all0) all0
          have J723 : Own.Stp Z consts_1 vm564 h564 vm711 h714 [] := Own.Stp.trans J722 J714 (all0) all0
          have J724 : Own.Stp Z consts_1 vm564 h564 vm711 h718 [] := Own.Stp.trans J723 J718 (all0) (allS (Or.inr (Nat.le_trans J722.1.1 (Nat.le_of_eq g_x714.symm))) all0)
          exact JA vm711 T718 h718 kk (3 : Int32) b12 xn tn csn it1 x711 ((q4 &&& (2147483647 : Int32)) % (5 : Int32)) o17 x714 y718 own_M3 (1 : Int32) (S718.mono (by decide) (by decide)) J724 St721 St718 hPn own_Pm3
        ·
          refine hG.st (fun t q => XS.ifNo S711.here hx rfl (hb hby at_197) rfl ((if0 _ _).trans (feq hc197).1) (XS.aload S711.here hx rfl (hb hby at_200) rfl rfl (XS.iload S711.here hx rfl (hb hby at_202) rfl (XS.iload S711.here hx rfl (hb hby at_204) rfl q)))) ?_
          show G T711 (mkF m 206 #[iv q0, iv q1, iv q2, iv q3, iv q4, iv q5, iv kk, iv mu1, iv cN, iv 3, iv mu2, iv cM, rv b12, rv xn, iv it1, rv x711, iv ((q4 &&& (2147483647 : Int32)) % (5 : Int32)), iv o17, .unset, .unset, .unset] [(.int cM), (.int ((q4 &&& (2147483647 : Int32)) % (5 : Int32))), (.ref x711)])
          refine Own.Sit.stC hG S711 hx V711 ga_x711 (own_ix _ (5 : Int32) (by decide)) ((q4 &&& (2147483647 : Int32)) % (5 : Int32)).toNatClampNeg rfl (by rw [List.length_map]; exact (own_ixn (n := (5 : Int32)) (own_ix _ (5 : Int32) (by decide)) (by decide))) rfl rfl (hb hby at_206) (fun T725 h725 S725 J725 V725 => ?_)
          rw [own_nar rcM, ← List.map_set] at V725
          show G T725 (mkF m 207 #[iv q0, iv q1, iv q2, iv q3, iv q4, iv q5, iv kk, iv mu1, iv cN, iv 3, iv mu2, iv cM, rv b12, rv xn, iv it1, rv x711, iv ((q4 &&& (2147483647 : Int32)) % (5 : Int32)), iv o17, .unset, .unset, .unset] [])
          refine Own.Sit.newO hG S725 hx (hW 6 _ rfl) (hW 7 _ rfl) (hW 8 _ rfl) rfl (hb hby at_207) (by decide) (by decide) (fun T726 h726 x726 g_x726 S726 J726 Sf726 E726 D726 => ?_)
          have lt_x726 := E726.lt
          have ga_x726 : Z.heap.size ≤ x726 := Nat.le_trans S725.le (Nat.le_of_eq g_x726.symm)
          have F727 : Fld Z h726 x726 "java/lang/String" "coder" "B" (.int 0) := D726 (Or.inr (hW 32 _ rfl)) (ty := .byte) (by decide)
          have F728 : Fld Z h726 x726 "java/lang/String" "value" "[B" .null := D726 (Or.inr (hW 34 _ rfl)) (ty := (.array .byte)) (by decide)
          refine hG.st (fun t q => XS.dup S726.here hx rfl (hb hby at_210) rfl rfl (XS.aload S726.here hx rfl (hb hby at_211) rfl rfl q)) ?_
          show G T726 (mkF m 213 #[iv q0, iv q1, iv q2, iv q3, iv q4, iv q5, iv kk, iv mu1, iv cN, iv 3, iv mu2, iv cM, rv b12, rv xn, iv it1, rv x711, iv ((q4 &&& (2147483647 : Int32)) % (5 : Int32)), iv o17, .unset, .unset, .unset] [(.ref x711), (.ref x726), (.ref x726)])
          have V729 := J726.arv V725 nin0
          refine Own.Sit.newStr hG S726 hx hWs hCm (hW 7 _ rfl) (hW 9 _ rfl) (hW 10 _ rfl) (cs := (own_M3.set ((q4 &&& (2147483647 : Int32)) % (5 : Int32)).toNatClampNeg cM)) ga_x726 Sf726 E726 F728 F727 V729 (by rw [List.length_set]; decide) (by rw [List.length_set]; decide) (by rw [List.length_set]; decide) (own_setr (by decide) rcM) (nn := 5) (by rw [List.length_set]; decide) rfl (hz _ rfl) (rest := [(.ref x726)]) rfl (W := 1) (Own.hw0 rfl rfl) (hb hby at_213) (by decide) (by decide) (by decide) (by decide) (fun T730 h730 y730 S730 J730 u730 St730 => ?_)
          refine hG.st (fun t q => XS.astore S730.here hx rfl (hb hby at_216) rfl rfl (l' := #[iv q0, iv q1, iv q2, iv q3, iv q4, iv q5, iv kk, iv mu1, iv cN, iv 3, iv mu2, iv cM, rv b12, rv xn, iv it1, rv x711, iv ((q4 &&& (2147483647 : Int32)) % (5 : Int32)), iv o17, rv x726, .unset, .unset]) rfl (XS.iload S730.here hx rfl (hb hby at_218) rfl (XS.ifNo S730.here hx rfl (hb hby at_220) rfl ((if0 _ _).trans (feq (hc197 : ¬ (mu2 = (0 : Int32)))).1) (XS.iload S730.here hx rfl (hb hby at_223) rfl (XS.iload S730.here hx rfl (hb hby at_225) rfl q))))) ?_
          show G T730 (mkF m 227 #[iv q0, iv q1, iv q2, iv q3, iv q4, iv q5, iv kk, iv mu1, iv cN, iv 3, iv mu2, iv cM, rv b12, rv xn, iv it1, rv x711, iv ((q4 &&& (2147483647 : Int32)) % (5 : Int32)), iv o17, rv x726, .unset, .unset] [(.int o17), (.int cM)])
          by_cases hc227 : cM = o17
          ·
            refine hG.st (fun t q => XS.icmpNo S730.here hx rfl (hb hby at_227) rfl (teq hc227).2 (XS.iconst S730.here hx rfl (hb hby at_230) (XS.goto S730.here hx rfl (pc0 := 231) (pc' := 235) rfl (hb hby at_231) (by decide) (by decide) (XS.istore S730.here hx rfl (hb hby at_235) rfl (l' := #[iv q0, iv q1, iv q2, iv q3, iv q4, iv q5, iv kk, iv mu1, iv cN, iv 3, iv mu2, iv cM, rv b12, rv xn, iv it1, rv x711, iv ((q4 &&& (2147483647 : Int32)) % (5 : Int32)), iv o17, rv x726, iv 1, .unset]) rfl q)))) ?_
            show G T730 (mkF m 237 #[iv q0, iv q1, iv q2, iv q3, iv q4, iv q5, iv kk, iv mu1, iv cN, iv 3, iv mu2, iv cM, rv b12, rv xn, iv it1, rv x711, iv ((q4 &&& (2147483647 : Int32)) % (5 : Int32)), iv o17, rv x726, iv 1, .unset] [])
            have J731 : Own.Stp Z consts_1 vm602 h602 vm711 h725 [] := Own.Stp.trans J711 J725 (all0) (allS (Or.inr u711) all0)
            have J732 : Own.Stp Z consts_1 vm602 h602 vm711 h726 [] := Own.Stp.trans J731 J726 (all0) all0
            have J733 : Own.Stp Z consts_1 vm602 h602 vm711 h730 [] := Own.Stp.trans J732 J730 (all0) (allS (Or.inr (Nat.le_trans J731.1.1 (Nat.le_of_eq g_x726.symm))) all0)
            have St734 := J733.str SN nin0 nin0
            have J735 : Own.Stp Z consts_1 vm564 h564 vm711 h711 [] := Own.Stp.trans J602 J711 (all0) all0
            have J736 : Own.Stp Z consts_1 vm564 h564 vm711 h725 [] := Own.Stp.trans J735 J725 (all0) (allS (Or.inr (Nat.le_trans J602.1.1 u711)) all0)
            have J737 : Own.Stp Z consts_1 vm564 h564 vm711 h726 [] := Own.Stp.trans J736 J726 (all0) all0
            have J738 : Own.Stp Z consts_1 vm564 h564 vm711 h730 [] := Own.Stp.trans J737 J730 (all0) (allS (Or.inr (Nat.le_trans J736.1.1 (Nat.le_of_eq g_x726.symm))) all0)
            exact JA vm711 T730 h730 kk (3 : Int32) b12 xn tn csn it1 x711 ((q4 &&& (2147483647 : Int32)) % (5 : Int32)) o17 x726 y730 (own_M3.set ((q4 &&& (2147483647 : Int32)) % (5 : Int32)).toNatClampNeg cM) (1 : Int32) (S730.mono (by decide) (by decide)) J738 St734 St730 hPn (own_Pm3s (own_ixn (n := (5 : Int32)) (own_ix _ (5 : Int32) (by decide)) (by decide)) (by rw [← eo17]; exact ⟨fun _ => hc227, fun _ => by decide⟩))
          ·
            refine hG.st (fun t q => XS.icmpYes S730.here hx rfl (pc0 := 227) (pc' := 234) rfl (hb hby at_227) rfl (feq hc227).2 (by decide) (by decide) (XS.iconst S730.here hx rfl (hb hby at_234) (XS.istore S730.here hx rfl (hb hby at_235) rfl (l' := #[iv q0, iv q1, iv q2, iv q3, iv q4, iv q5, iv kk, iv mu1, iv cN, iv 3, iv mu2, iv cM, rv b12, rv xn, iv it1, rv x711, iv ((q4 &&& (2147483647 : Int32)) % (5 : Int32)), iv o17, rv x726, iv 0, .unset]) rfl q))) ?_
            show G T730 (mkF m 237 #[iv q0, iv q1, iv q2, iv q3, iv q4, iv q5, iv kk, iv mu1, iv cN, iv 3, iv mu2, iv cM, rv b12, rv xn, iv it1, rv x711, iv ((q4 &&& (2147483647 : Int32)) % (5 : Int32)), iv o17, rv x726, iv 0, .unset] [])
            have J739 : Own.Stp Z consts_1 vm602 h602 vm711 h725 [] := Own.Stp.trans J711 J725 (all0) (allS (Or.inr u711) all0)
            have J740 : Own.Stp Z consts_1 vm602 h602 vm711 h726 [] := Own.Stp.trans J739 J726 (all0) all0
            have J741 : Own.Stp Z consts_1 vm602 h602 vm711 h730 [] := Own.Stp.trans J740 J730 (all0) (allS (Or.inr (Nat.le_trans J739.1.1 (Nat.le_of_eq g_x726.symm))) all0)
            have St742 := J741.str SN nin0 nin0
            have J743 : Own.Stp Z consts_1 vm564 h564 vm711 h711 [] := Own.Stp.trans J602 J711 (all0) all0
            have J744 : Own.Stp Z consts_1 vm564 h564 vm711 h725 [] := Own.Stp.trans J743 J725 (all0) (allS (Or.inr (Nat.le_trans J602.1.1 u711)) all0)
            have J745 : Own.Stp Z consts_1 vm564 h564 vm711 h726 [] := Own.Stp.trans J744 J726 (all0) all0
            have J746 : Own.Stp Z consts_1 vm564 h564 vm711 h730 [] := Own.Stp.trans J745 J730 (all0) (allS (Or.inr (Nat.le_trans J744.1.1 (Nat.le_of_eq g_x726.symm))) all0)
            exact JA vm711 T730 h730 kk (3 : Int32) b12 xn tn csn it1 x711 ((q4 &&& (2147483647 : Int32)) % (5 : Int32)) o17 x726 y730 (own_M3.set ((q4 &&& (2147483647 : Int32)) % (5 : Int32)).toNatClampNeg cM) (0 : Int32) (S730.mono (by decide) (by decide)) J746 St742 St730 hPn (own_Pm3s (own_ixn (n := (5 : Int32)) (own_ix _ (5 : Int32) (by decide)) (by decide)) (by rw [← eo17]; exact ⟨fun z => absurd rfl z, fun z => absurd z hc227⟩))
      by_cases hm4 : m0 = (4 : Int32)
      ·
        rw [hm4]
        show G T602 (mkF m 170 #[iv q0, iv q1, iv q2, iv q3, iv q4, iv q5, iv kk, iv mu1, iv cN, iv 4, iv mu2, iv cM, rv b12, rv xn, iv it1, s15, s16, .unset, .unset, .unset, .unset] [])
        refine hG.st (fun t q => XS.iload S602.here hx rfl (hb hby at_170) rfl q) ?_
        show G T602 (mkF m 172 #[iv q0, iv q1, iv q2, iv q3, iv q4, iv q5, iv kk, iv mu1, iv cN, iv 4, iv mu2, iv cM, rv b12, rv xn, iv it1, s15, s16, .unset, .unset, .unset, .unset] [(.int 4)])
        refine Own.Sit.callS hG S602 hx hEL (as := [(.int 4)]) (hW 35 _ rfl) (hW 36 _ rfl) (hW 2 _ rfl) (hW 37 _ rfl) (by decide) (own_nm4 l Z a0 H h602 S602.old) own_pd864215 rfl rfl (hz _ rfl) (rest := []) rfl (W := 0) (Own.hw0 rfl rfl) (hb hby at_172) (by decide) (by decide) (by decide) (by decide) (fun v747 vm747 T747 h747 S747 C747 q747 => ?_)
        obtain ⟨K747, x747, k747, rfl, u747, V747⟩ := q747
        have J747 : Own.Stp Z consts_1 vm602 h602 vm747 h747 [] := ⟨K747, C747⟩
        have ga_x747 : Z.heap.size ≤ x747 := Nat.le_trans S602.le u747
        refine hG.st (fun t q => XS.astore S747.here hx rfl (hb hby at_175) rfl rfl (l' := #[iv q0, iv q1, iv q2, iv q3, iv q4, iv q5, iv kk, iv mu1, iv cN, iv 4, iv mu2, iv cM, rv b12, rv xn, iv it1, rv x747, s16, .unset, .unset, .unset, .unset]) (own_os748 ho15) (XS.iload S747.here hx rfl (hb hby at_177) rfl q)) ?_
        show G T747 (mkF m 179 #[iv q0, iv q1, iv q2, iv q3, iv q4, iv q5, iv kk, iv mu1, iv cN, iv 4, iv mu2, iv cM, rv b12, rv xn, iv it1, rv x747, s16, .unset, .unset, .unset, .unset] [(.int q4)])
        refine Own.Sit.ldcI hG S747 hx (hW 5 _ rfl) rfl (hb hby at_179) ?_
        show G T747 (mkF m 181 #[iv q0, iv q1, iv q2, iv q3, iv q4, iv q5, iv kk, iv mu1, iv cN, iv 4, iv mu2, iv cM, rv b12, rv xn, iv it1, rv x747, s16, .unset, .unset, .unset, .unset] [(.int 2147483647), (.int q4)])
        refine hG.st (fun t q => XS.iand S747.here hx rfl (hb hby at_181) rfl (XS.aload S747.here hx rfl (hb hby at_182) rfl rfl q)) ?_
        show G T747 (mkF m 184 #[iv q0, iv q1, iv q2, iv q3, iv q4, iv q5, iv kk, iv mu1, iv cN, iv 4, iv mu2, iv cM, rv b12, rv xn, iv it1, rv x747, s16, .unset, .unset, .unset, .unset] [(.ref x747), (.int (q4 &&& (2147483647 : Int32)))])
        refine Own.Sit.arraylength hG S747 hx V747 rfl rfl (hb hby at_184) ?_
        show G T747 (mkF m 185 #[iv q0, iv q1, iv q2, iv q3, iv q4, iv q5, iv kk, iv mu1, iv cN, iv 4, iv mu2, iv cM, rv b12, rv xn, iv it1, rv x747, s16, .unset, .unset, .unset, .unset] [(.int 4), (.int (q4 &&& (2147483647 : Int32)))])
        refine hG.st (fun t q => Own.irem S747.here hx rfl (hb hby at_185) rfl (by decide) (XS.istore S747.here hx rfl (hb hby at_186) rfl (l' := #[iv q0, iv q1, iv q2, iv q3, iv q4, iv q5, iv kk, iv mu1, iv cN, iv 4, iv mu2, iv cM, rv b12, rv xn, iv it1, rv x747, iv ((q4 &&& (2147483647 : Int32)) % (4 : Int32)), .unset, .unset, .unset, .unset]) (own_os749 ho16) (XS.aload S747.here hx rfl (hb hby at_188) rfl rfl (XS.iload S747.here hx rfl (hb hby at_190) rfl q)))) ?_
        show G T747 (mkF m 192 #[iv q0, iv q1, iv q2, iv q3, iv q4, iv q5, iv kk, iv mu1, iv cN, iv 4, iv mu2, iv cM, rv b12, rv xn, iv it1, rv x747, iv ((q4 &&& (2147483647 : Int32)) % (4 : Int32)), .unset, .unset, .unset, .unset] [(.int ((q4 &&& (2147483647 : Int32)) % (4 : Int32))), (.ref x747)])
        refine Own.Sit.caload hG S747 hx V747 (own_ix _ (4 : Int32) (by decide)) (own_get (cs := own_M4) (own_ixn (n := (4 : Int32)) (own_ix _ (4 : Int32) (by decide)) (by decide))) rfl rfl (hb hby at_192) ?_
        obtain ⟨o17, eo17⟩ : ∃ z, z = own_M4.getD ((q4 &&& (2147483647 : Int32)) % (4 : Int32)).toNatClampNeg 0 := ⟨_, rfl⟩
        rw [← eo17]
        show G T747 (mkF m 193 #[iv q0, iv q1, iv q2, iv q3, iv q4, iv q5, iv kk, iv mu1, iv cN, iv 4, iv mu2, iv cM, rv b12, rv xn, iv it1, rv x747, iv ((q4 &&& (2147483647 : Int32)) % (4 : Int32)), .unset, .unset, .unset, .unset] [(.int o17)])
        refine hG.st (fun t q => XS.istore S747.here hx rfl (hb hby at_193) rfl (l' := #[iv q0, iv q1, iv q2, iv q3, iv q4, iv q5, iv kk, iv mu1, iv cN, iv 4, iv mu2, iv cM, rv b12, rv xn, iv it1, rv x747, iv ((q4 &&& (2147483647 : Int32)) % (4 : Int32)), iv o17, .unset, .unset, .unset]) rfl (XS.iload S747.here hx rfl (hb hby at_195) rfl q)) ?_
        show G T747 (mkF m 197 #[iv q0, iv q1, iv q2, iv q3, iv q4, iv q5, iv kk, iv mu1, iv cN, iv 4, iv mu2, iv cM, rv b12, rv xn, iv it1, rv x747, iv ((q4 &&& (2147483647 : Int32)) % (4 : Int32)), iv o17, .unset, .unset, .unset] [(.int mu2)])
        by_cases hc197 : mu2 = (0 : Int32)
        ·
          refine hG.st (fun t q => XS.ifYes S747.here hx rfl (pc0 := 197) (pc' := 207) rfl (hb hby at_197) rfl ((if0 _ _).trans (teq hc197).1) (by decide) (by decide) q) ?_
          show G T747 (mkF m 207 #[iv q0, iv q1, iv q2, iv q3, iv q4, iv q5, iv kk, iv mu1, iv cN, iv 4, iv mu2, iv cM, rv b12, rv xn, iv it1, rv x747, iv ((q4 &&& (2147483647 : Int32)) % (4 : Int32)), iv o17, .unset, .unset, .unset] [])
          refine Own.Sit.newO hG S747 hx (hW 6 _ rfl) (hW 7 _ rfl) (hW 8 _ rfl) rfl (hb hby at_207) (by decide) (by decide) (fun T750 h750 x750 g_x750 S750 J750 Sf750 E750 D750 => ?_)
          have lt_x750 := E750.lt
          have ga_x750 : Z.heap.size ≤ x750 := Nat.le_trans S747.le (Nat.le_of_eq g_x750.symm)
          have F751 : Fld Z h750 x750 "java/lang/String" "coder" "B" (.int 0) := D750 (Or.inr (hW 32 _ rfl)) (ty := .byte) (by decide)
          have F752 : Fld Z h750 x750 "java/lang/String" "value" "[B" .null := D750 (Or.inr (hW 34 _ rfl)) (ty := (.array .byte)) (by decide)
          refine hG.st (fun t q => XS.dup S750.here hx rfl (hb hby at_210) rfl rfl (XS.aload S750.here hx rfl (hb hby at_211) rfl rfl q)) ?_
          show G T750 (mkF m 213 #[iv q0, iv q1, iv q2, iv q3, iv q4, iv q5, iv kk, iv mu1, iv cN, iv 4, iv mu2, iv cM, rv b12, rv xn, iv it1, rv x747, iv ((q4 &&& (2147483647 : Int32)) % (4 : Int32)), iv o17, .unset, .unset, .unset] [(.ref x747), (.ref x750), (.ref x750)])
          have V753 := J750.arv V747 nin0
          refine Own.Sit.newStr hG S750 hx hWs hCm (hW 7 _ rfl) (hW 9 _ rfl) (hW 10 _ rfl) (cs := own_M4) ga_x750 Sf750 E750 F752 F751 V753 (by decide) (by decide) (by decide) (by decide) (nn := 4) (by decide) rfl (hz _ rfl) (rest := [(.ref x750)]) rfl (W := 1) (Own.hw0 rfl rfl) (hb hby at_213) (by decide) (by decide) (by decide) (by decide) (fun T754 h754 y754 S754 J754 u754 St754 => ?_)
          refine hG.st (fun t q => XS.astore S754.here hx rfl (hb hby at_216) rfl rfl (l' := #[iv q0, iv q1, iv q2, iv q3, iv q4, iv q5, iv kk, iv mu1, iv cN, iv 4, iv mu2, iv cM, rv b12, rv xn, iv it1, rv x747, iv ((q4 &&& (2147483647 : Int32)) % (4 : Int32)), iv o17, rv x750, .unset, .unset]) rfl (XS.iload S754.here hx rfl (hb hby at_218) rfl (XS.ifYes S754.here hx rfl (pc0 := 220) (pc' := 230) rfl (hb hby at_220) rfl ((if0 _ _).trans (teq (hc197 : mu2 = (0 : Int32))).1) (by decide) (by decide) (XS.iconst S754.here hx rfl (hb hby at_230) (XS.goto S754.here hx rfl (pc0 := 231) (pc' := 235) rfl (hb hby at_231) (by decide) (by decide) (XS.istore S754.here hx rfl (hb hby at_235) rfl (l' := #[iv q0, iv q1, iv q2, iv q3, iv q4, iv q5, iv kk, iv mu1, iv cN, iv 4, iv mu2, iv cM, rv b12, rv xn, iv it1, rv x747, iv ((q4 &&& (2147483647 : Int32)) % (4 : Int32)), iv o17, rv x750, iv 1, .unset]) rfl q)))))) ?_
          show G T754 (mkF m 237 #[iv q0, iv q1, iv q2, iv q3, iv q4, iv q5, iv kk, iv mu1, iv cN, iv 4, iv mu2, iv cM, rv b12, rv xn, iv it1, rv x747, iv ((q4 &&& (2147483647 : Int32)) % (4 : Int32)), iv o17, rv x750, iv 1, .unset] [])
          have J755 : Own.Stp Z consts_1 vm602 h602 vm747 h750 [] := Own.Stp.trans J747 J750 (all0) all0
          have J756 : Own.Stp Z consts_1 vm602 h602 vm747 h754 [] := Own.Stp.trans J755 J754 (all0) (allS (Or.inr (Nat.le_trans J747.1.1 (Nat.le_of_eq g_x750.symm))) all0)
          have St757 := J756.str SN nin0 nin0
          have J758 : Own.Stp Z consts_1 vm564 h564 vm747 h747 [] := Own.Stp.trans J602 J747 (all0) all0
          have J759 : Own.Stp Z consts_1 vm564 h564 vm747 h750 [] := Own.Stp.trans J758 J750 (all0) all0
          have J760 : Own.Stp Z consts_1 vm564 h564 vm747 h754 [] := Own.Stp.trans J759 J754 (all0) (allS (Or.inr (Nat.le_trans J758.1.1 (Nat.le_of_eq g_x750.symm))) all0)
          exact JA vm747 T754 h754 kk (4 : Int32) b12 xn tn csn it1 x747 ((q4 &&& (2147483647 : Int32)) % (4 : Int32)) o17 x750 y754 own_M4 (1 : Int32) (S754.mono (by decide) (by decide)) J760 St757 St754 hPn own_Pm4
        ·
          refine hG.st (fun t q => XS.ifNo S747.here hx rfl (hb hby at_197) rfl ((if0 _ _).trans (feq hc197).1) (XS.aload S747.here hx rfl (hb hby at_200) rfl rfl (XS.iload S747.here hx rfl (hb hby at_202) rfl (XS.iload S747.here hx rfl (hb hby at_204) rfl q)))) ?_
          show G T747 (mkF m 206 #[iv q0, iv q1, iv q2, iv q3, iv q4, iv q5, iv kk, iv mu1, iv cN, iv 4, iv mu2, iv cM, rv b12, rv xn, iv it1, rv x747, iv ((q4 &&& (2147483647 : Int32)) % (4 : Int32)), iv o17, .unset, .unset, .unset] [(.int cM), (.int ((q4 &&& (2147483647 : Int32)) % (4 : Int32))), (.ref x747)])
          refine Own.Sit.stC hG S747 hx V747 ga_x747 (own_ix _ (4 : Int32) (by decide)) ((q4 &&& (2147483647 : Int32)) % (4 : Int32)).toNatClampNeg rfl (by rw [List.length_map]; exact (own_ixn (n := (4 : Int32)) (own_ix _ (4 : Int32) (by decide)) (by decide))) rfl rfl (hb hby at_206) (fun T761 h761 S761 J761 V761 => ?_)
          rw [own_nar rcM, ← List.map_set] at V761
          show G T761 (mkF m 207 #[iv q0, iv q1, iv q2, iv q3, iv q4, iv q5, iv kk, iv mu1, iv cN, iv 4, iv mu2, iv cM, rv b12, rv xn, iv it1, rv x747, iv ((q4 &&& (2147483647 : Int32)) % (4 : Int32)), iv o17, .unset, .unset, .unset] [])
          refine Own.Sit.newO hG S761 hx (hW 6 _ rfl) (hW 7 _ rfl) (hW 8 _ rfl) rfl (hb hby at_207) (by decide) (by decide) (fun T762 h762 x762 g_x762 S762 J762 Sf762 E762 D762 => ?_)
          have lt_x762 := E762.lt
          have ga_x762 : Z.heap.size ≤ x762 := Nat.le_trans S761.le (Nat.le_of_eq g_x762.symm)
          have F763 : Fld Z h762 x762 "java/lang/String" "coder" "B" (.int 0) := D762 (Or.inr (hW 32 _ rfl)) (ty := .byte) (by decide)
          have F764 : Fld Z h762 x762 "java/lang/String" "value" "[B" .null := D762 (Or.inr (hW 34 _ rfl)) (ty := (.array .byte)) (by decide)
          refine hG.st (fun t q => XS.dup S762.here hx rfl (hb hby at_210) rfl rfl (XS.aload S762.here hx rfl (hb hby at_211) rfl rfl q)) ?_
          show G T762 (mkF m 213 #[iv q0, iv q1, iv q2, iv q3, iv q4, iv q5, iv kk, iv mu1, iv cN, iv 4, iv mu2, iv cM, rv b12, rv xn, iv it1, rv x747, iv ((q4 &&& (2147483647 : Int32)) % (4 : Int32)), iv o17, .unset, .unset, .unset] [(.ref x747), (.ref x762), (.ref x762)])
          have V765 := J762.arv V761 nin0
          refine Own.Sit.newStr hG S762 hx hWs hCm (hW 7 _ rfl) (hW 9 _ rfl) (hW 10 _ rfl) (cs := (own_M4.set ((q4 &&& (2147483647 : Int32)) % (4 : Int32)).toNatClampNeg cM)) ga_x762 Sf762 E762 F764 F763 V765 (by rw [List.length_set]; decide) (by rw [List.length_set]; decide) (by rw [List.length_set]; decide) (own_setr (by decide) rcM) (nn := 4) (by rw [List.length_set]; decide) rfl (hz _ rfl) (rest := [(.ref x762)]) rfl (W := 1) (Own.hw0 rfl rfl) (hb hby at_213) (by decide) (by decide) (by decide) (by decide) (fun T766 h766 y766 S766 J766 u766 St766 => ?_)
          refine hG.st (fun t q => XS.astore S766.here hx rfl (hb hby at_216) rfl rfl (l' := #[iv q0, iv q1, iv q2, iv q3, iv q4, iv q5, iv kk, iv mu1, iv cN, iv 4, iv mu2, iv cM, rv b12, rv xn, iv it1, rv x747, iv ((q4 &&& (2147483647 : Int32)) % (4 : Int32)), iv o17, rv x762, .unset, .unset]) rfl (XS.iload S766.here hx rfl (hb hby at_218) rfl (XS.ifNo S766.here hx rfl (hb hby at_220) rfl ((if0 _ _).trans (feq (hc197 : ¬ (mu2 = (0 : Int32)))).1) (XS.iload S766.here hx rfl (hb hby at_223) rfl (XS.iload S766.here hx rfl (hb hby at_225) rfl q))))) ?_
          show G T766 (mkF m 227 #[iv q0, iv q1, iv q2, iv q3, iv q4, iv q5, iv kk, iv mu1, iv cN, iv 4, iv mu2, iv cM, rv b12, rv xn, iv it1, rv x747, iv ((q4 &&& (2147483647 : Int32)) % (4 : Int32)), iv o17, rv x762, .unset, .unset] [(.int o17), (.int cM)])
          by_cases hc227 : cM = o17
          ·
            refine hG.st (fun t q => XS.icmpNo S766.here hx rfl (hb hby at_227) rfl (teq hc227).2 (XS.iconst S766.here hx rfl (hb hby at_230) (XS.goto S766.here hx rfl (pc0 := 231) (pc' := 235) rfl (hb hby at_231) (by decide) (by decide) (XS.istore S766.here hx rfl (hb hby at_235) rfl (l' := #[iv q0, iv q1, iv q2, iv q3, iv q4, iv q5, iv kk, iv mu1, iv cN, iv 4, iv mu2, iv cM, rv b12, rv xn, iv it1, rv x747, iv ((q4 &&& (2147483647 : Int32)) % (4 : Int32)), iv o17, rv x762, iv 1, .unset]) rfl q)))) ?_
            show G T766 (mkF m 237 #[iv q0, iv q1, iv q2, iv q3, iv q4, iv q5, iv kk, iv mu1, iv cN, iv 4, iv mu2, iv cM, rv b12, rv xn, iv it1, rv x747, iv ((q4 &&& (2147483647 : Int32)) % (4 : Int32)), iv o17, rv x762, iv 1, .unset] [])
            have J767 : Own.Stp Z consts_1 vm602 h602 vm747 h761 [] := Own.Stp.trans J747 J761 (all0) (allS (Or.inr u747) all0)
            have J768 : Own.Stp Z consts_1 vm602 h602 vm747 h762 [] := Own.Stp.trans J767 J762 (all0) all0
            have J769 : Own.Stp Z consts_1 vm602 h602 vm747 h766 [] := Own.Stp.trans J768 J766 (all0) (allS (Or.inr (Nat.le_trans J767.1.1 (Nat.le_of_eq g_x762.symm))) all0)
            have St770 := J769.str SN nin0 nin0
            have J771 : Own.Stp Z consts_1 vm564 h564 vm747 h747 [] := Own.Stp.trans J602 J747 (all0) all0
            have J772 : Own.Stp Z consts_1 vm564 h564 vm747 h761 [] := Own.Stp.trans J771 J761 (all0) (allS (Or.inr (Nat.le_trans J602.1.1 u747)) all0)
            have J773 : Own.Stp Z consts_1 vm564 h564 vm747 h762 [] := Own.Stp.trans J772 J762 (all0) all0
            have J774 : Own.Stp Z consts_1 vm564 h564 vm747 h766 [] := Own.Stp.trans J773 J766 (all0) (allS (Or.inr (Nat.le_trans J772.1.1 (Nat.le_of_eq g_x762.symm))) all0)
            exact JA vm747 T766 h766 kk (4 : Int32) b12 xn tn csn it1 x747 ((q4 &&& (2147483647 : Int32)) % (4 : Int32)) o17 x762 y766 (own_M4.set ((q4 &&& (2147483647 : Int32)) % (4 : Int32)).toNatClampNeg cM) (1 : Int32) (S766.mono (by decide) (by decide)) J774 St770 St766 hPn own_Pm4s
          ·
            refine hG.st (fun t q => XS.icmpYes S766.here hx rfl (pc0 := 227) (pc' := 234) rfl (hb hby at_227) rfl (feq hc227).2 (by decide) (by decide) (XS.iconst S766.here hx rfl (hb hby at_234) (XS.istore S766.here hx rfl (hb hby at_235) rfl (l' := #[iv q0, iv q1, iv q2, iv q3, iv q4, iv q5, iv kk, iv mu1, iv cN, iv 4, iv mu2, iv cM, rv b12, rv xn, iv it1, rv x747, iv ((q4 &&& (2147483647 : Int32)) % (4 : Int32)), iv o17, rv x762, iv 0, .unset]) rfl q))) ?_
            show G T766 (mkF m 237 #[iv q0, iv q1, iv q2, iv q3, iv q4, iv q5, iv kk, iv mu1, iv cN, iv 4, iv mu2, iv cM, rv b12, rv xn, iv it1, rv x747, iv ((q4 &&& (2147483647 : Int32)) % (4 : Int32)), iv o17, rv x762, iv 0, .unset] [])
            have J775 : Own.Stp Z consts_1 vm602 h602 vm747 h761 [] := Own.Stp.trans J747 J761 (all0) (allS (Or.inr u747) all0)
            have J776 : Own.Stp Z consts_1 vm602 h602 vm747 h762 [] := Own.Stp.trans J775 J762 (all0) all0
            have J777 : Own.Stp Z consts_1 vm602 h602 vm747 h766 [] := Own.Stp.trans J776 J766 (all0) (allS (Or.inr (Nat.le_trans J775.1.1 (Nat.le_of_eq g_x762.symm))) all0)
            have St778 := J777.str SN nin0 nin0
            have J779 : Own.Stp Z consts_1 vm564 h564 vm747 h747 [] := Own.Stp.trans J602 J747 (all0) all0
            have J780 : Own.Stp Z consts_1 vm564 h564 vm747 h761 [] := Own.Stp.trans J779 J761 (all0) (allS (Or.inr (Nat.le_trans J602.1.1 u747)) all0)
            have J781 : Own.Stp Z consts_1 vm564 h564 vm747 h762 [] := Own.Stp.trans J780 J762 (all0) all0
            have J782 : Own.Stp Z consts_1 vm564 h564 vm747 h766 [] := Own.Stp.trans J781 J766 (all0) (allS (Or.inr (Nat.le_trans J780.1.1 (Nat.le_of_eq g_x762.symm))) all0)
            exact JA vm747 T766 h766 kk (4 : Int32) b12 xn tn csn it1 x747 ((q4 &&& (2147483647 : Int32)) % (4 : Int32)) o17 x762 y766 (own_M4.set ((q4 &&& (2147483647 : Int32)) % (4 : Int32)).toNatClampNeg cM) (0 : Int32) (S766.mono (by decide) (by decide)) J782 St778 St766 hPn own_Pm4s
      by_cases hm5 : m0 = (5 : Int32)
      ·
        rw [hm5]
        show G T602 (mkF m 170 #[iv q0, iv q1, iv q2, iv q3, iv q4, iv q5, iv kk, iv mu1, iv cN, iv 5, iv mu2, iv cM, rv b12, rv xn, iv it1, s15, s16, .unset, .unset, .unset, .unset] [])
        refine hG.st (fun t q => XS.iload S602.here hx rfl (hb hby at_170) rfl q) ?_
        show G T602 (mkF m 172 #[iv q0, iv q1, iv q2, iv q3, iv q4, iv q5, iv kk, iv mu1, iv cN, iv 5, iv mu2, iv cM, rv b12, rv xn, iv it1, s15, s16, .unset, .unset, .unset, .unset] [(.int 5)])
        refine Own.Sit.callS hG S602 hx hEL (as := [(.int 5)]) (hW 35 _ rfl) (hW 36 _ rfl) (hW 2 _ rfl) (hW 37 _ rfl) (by decide) (own_nm5 l Z a0 H h602 S602.old) own_pd864215 rfl rfl (hz _ rfl) (rest := []) rfl (W := 0) (Own.hw0 rfl rfl) (hb hby at_172) (by decide) (by decide) (by decide) (by decide) (fun v783 vm783 T783 h783 S783 C783 q783 => ?_)
        obtain ⟨K783, x783, k783, rfl, u783, V783⟩ := q783
        have J783 : Own.Stp Z consts_1 vm602 h602 vm783 h783 [] := ⟨K783, C783⟩
        have ga_x783 : Z.heap.size ≤ x783 := Nat.le_trans S602.le u783
        refine hG.st (fun t q => XS.astore S783.here hx rfl (hb hby at_175) rfl rfl (l' := #[iv q0, iv q1, iv q2, iv q3, iv q4, iv q5, iv kk, iv mu1, iv cN, iv 5, iv mu2, iv cM, rv b12, rv xn, iv it1, rv x783, s16, .unset, .unset, .unset, .unset]) (own_os784 ho15) (XS.iload S783.here hx rfl (hb hby at_177) rfl q)) ?_
        show G T783 (mkF m 179 #[iv q0, iv q1, iv q2, iv q3, iv q4, iv q5, iv kk, iv mu1, iv cN, iv 5, iv mu2, iv cM, rv b12, rv xn, iv it1, rv x783, s16, .unset, .unset, .unset, .unset] [(.int q4)])
        refine Own.Sit.ldcI hG S783 hx (hW 5 _ rfl) rfl (hb hby at_179) ?_
        show G T783 (mkF m 181 #[iv q0, iv q1, iv q2, iv q3, iv q4, iv q5, iv kk, iv mu1, iv cN, iv 5, iv mu2, iv cM, rv b12, rv xn, iv it1, rv x783, s16, .unset, .unset, .unset, .unset] [(.int 2147483647), (.int q4)])
        refine hG.st (fun t q => XS.iand S783.here hx rfl (hb hby at_181) rfl (XS.aload S783.here hx rfl (hb hby at_182) rfl rfl q)) ?_
        show G T783 (mkF m 184 #[iv q0, iv q1, iv q2, iv q3, iv q4, iv q5, iv kk, iv mu1, iv cN, iv 5, iv mu2, iv cM, rv b12, rv xn, iv it1, rv x783, s16, .unset, .unset, .unset, .unset] [(.ref x783), (.int (q4 &&& (2147483647 : Int32)))])
        refine Own.Sit.arraylength hG S783 hx V783 rfl rfl (hb hby at_184) ?_
        show G T783 (mkF m 185 #[iv q0, iv q1, iv q2, iv q3, iv q4, iv q5, iv kk, iv mu1, iv cN, iv 5, iv mu2, iv cM, rv b12, rv xn, iv it1, rv x783, s16, .unset, .unset, .unset, .unset] [(.int 11), (.int (q4 &&& (2147483647 : Int32)))])
        refine hG.st (fun t q => Own.irem S783.here hx rfl (hb hby at_185) rfl (by decide) (XS.istore S783.here hx rfl (hb hby at_186) rfl (l' := #[iv q0, iv q1, iv q2, iv q3, iv q4, iv q5, iv kk, iv mu1, iv cN, iv 5, iv mu2, iv cM, rv b12, rv xn, iv it1, rv x783, iv ((q4 &&& (2147483647 : Int32)) % (11 : Int32)), .unset, .unset, .unset, .unset]) (own_os785 ho16) (XS.aload S783.here hx rfl (hb hby at_188) rfl rfl (XS.iload S783.here hx rfl (hb hby at_190) rfl q)))) ?_
        show G T783 (mkF m 192 #[iv q0, iv q1, iv q2, iv q3, iv q4, iv q5, iv kk, iv mu1, iv cN, iv 5, iv mu2, iv cM, rv b12, rv xn, iv it1, rv x783, iv ((q4 &&& (2147483647 : Int32)) % (11 : Int32)), .unset, .unset, .unset, .unset] [(.int ((q4 &&& (2147483647 : Int32)) % (11 : Int32))), (.ref x783)])
        refine Own.Sit.caload hG S783 hx V783 (own_ix _ (11 : Int32) (by decide)) (own_get (cs := own_M5) (own_ixn (n := (11 : Int32)) (own_ix _ (11 : Int32) (by decide)) (by decide))) rfl rfl (hb hby at_192) ?_
        obtain ⟨o17, eo17⟩ : ∃ z, z = own_M5.getD ((q4 &&& (2147483647 : Int32)) % (11 : Int32)).toNatClampNeg 0 := ⟨_, rfl⟩
        rw [← eo17]
        show G T783 (mkF m 193 #[iv q0, iv q1, iv q2, iv q3, iv q4, iv q5, iv kk, iv mu1, iv cN, iv 5, iv mu2, iv cM, rv b12, rv xn, iv it1, rv x783, iv ((q4 &&& (2147483647 : Int32)) % (11 : Int32)), .unset, .unset, .unset, .unset] [(.int o17)])
        refine hG.st (fun t q => XS.istore S783.here hx rfl (hb hby at_193) rfl (l' := #[iv q0, iv q1, iv q2, iv q3, iv q4, iv q5, iv kk, iv mu1, iv cN, iv 5, iv mu2, iv cM, rv b12, rv xn, iv it1, rv x783, iv ((q4 &&& (2147483647 : Int32)) % (11 : Int32)), iv o17, .unset, .unset, .unset]) rfl (XS.iload S783.here hx rfl (hb hby at_195) rfl q)) ?_
        show G T783 (mkF m 197 #[iv q0, iv q1, iv q2, iv q3, iv q4, iv q5, iv kk, iv mu1, iv cN, iv 5, iv mu2, iv cM, rv b12, rv xn, iv it1, rv x783, iv ((q4 &&& (2147483647 : Int32)) % (11 : Int32)), iv o17, .unset, .unset, .unset] [(.int mu2)])
        by_cases hc197 : mu2 = (0 : Int32)
        ·
          refine hG.st (fun t q => XS.ifYes S783.here hx rfl (pc0 := 197) (pc' := 207) rfl (hb hby at_197) rfl ((if0 _ _).trans (teq hc197).1) (by decide) (by decide) q) ?_
          show G T783 (mkF m 207 #[iv q0, iv q1, iv q2, iv q3, iv q4, iv q5, iv kk, iv mu1, iv cN, iv 5, iv mu2, iv cM, rv b12, rv xn, iv it1, rv x783, iv ((q4 &&& (2147483647 : Int32)) % (11 : Int32)), iv o17, .unset, .unset, .unset] [])
          refine Own.Sit.newO hG S783 hx (hW 6 _ rfl) (hW 7 _ rfl) (hW 8 _ rfl) rfl (hb hby at_207) (by decide) (by decide) (fun T786 h786 x786 g_x786 S786 J786 Sf786 E786 D786 => ?_)
          have lt_x786 := E786.lt
          have ga_x786 : Z.heap.size ≤ x786 := Nat.le_trans S783.le (Nat.le_of_eq g_x786.symm)
          have F787 : Fld Z h786 x786 "java/lang/String" "coder" "B" (.int 0) := D786 (Or.inr (hW 32 _ rfl)) (ty := .byte) (by decide)
          have F788 : Fld Z h786 x786 "java/lang/String" "value" "[B" .null := D786 (Or.inr (hW 34 _ rfl)) (ty := (.array .byte)) (by decide)
          refine hG.st (fun t q => XS.dup S786.here hx rfl (hb hby at_210) rfl rfl (XS.aload S786.here hx rfl (hb hby at_211) rfl rfl q)) ?_
          show G T786 (mkF m 213 #[iv q0, iv q1, iv q2, iv q3, iv q4, iv q5, iv kk, iv mu1, iv cN, iv 5, iv mu2, iv cM, rv b12, rv xn, iv it1, rv x783, iv ((q4 &&& (2147483647 : Int32)) % (11 : Int32)), iv o17, .unset, .unset, .unset] [(.ref x783), (.ref x786), (.ref x786)])
          have V789 := J786.arv V783 nin0
          refine Own.Sit.newStr hG S786 hx hWs hCm (hW 7 _ rfl) (hW 9 _ rfl) (hW 10 _ rfl) (cs := own_M5) ga_x786 Sf786 E786 F788 F787 V789 (by decide) (by decide) (by decide) (by decide) (nn := 11) (by decide) rfl (hz _ rfl) (rest := [(.ref x786)]) rfl (W := 1) (Own.hw0 rfl rfl) (hb hby at_213) (by decide) (by decide) (by decide) (by decide) (fun T790 h790 y790 S790 J790 u790 St790 => ?_)
          refine hG.st (fun t q => XS.astore S790.here hx rfl (hb hby at_216) rfl rfl (l' := #[iv q0, iv q1, iv q2, iv q3, iv q4, iv q5, iv kk, iv mu1, iv cN, iv 5, iv mu2, iv cM, rv b12, rv xn, iv it1, rv x783, iv ((q4 &&& (2147483647 : Int32)) % (11 : Int32)), iv o17, rv x786, .unset, .unset]) rfl (XS.iload S790.here hx rfl (hb hby at_218) rfl (XS.ifYes S790.here hx rfl (pc0 := 220) (pc' := 230) rfl (hb hby at_220) rfl ((if0 _ _).trans (teq (hc197 : mu2 = (0 : Int32))).1) (by decide) (by decide) (XS.iconst S790.here hx rfl (hb hby at_230) (XS.goto S790.here hx rfl (pc0 := 231) (pc' := 235) rfl (hb hby at_231) (by decide) (by decide) (XS.istore S790.here hx rfl (hb hby at_235) rfl (l' := #[iv q0, iv q1, iv q2, iv q3, iv q4, iv q5, iv kk, iv mu1, iv cN, iv 5, iv mu2, iv cM, rv b12, rv xn, iv it1, rv x783, iv ((q4 &&& (2147483647 : Int32)) % (11 : Int32)), iv o17, rv x786, iv 1, .unset]) rfl q)))))) ?_
          show G T790 (mkF m 237 #[iv q0, iv q1, iv q2, iv q3, iv q4, iv q5, iv kk, iv mu1, iv cN, iv 5, iv mu2, iv cM, rv b12, rv xn, iv it1, rv x783, iv ((q4 &&& (2147483647 : Int32)) % (11 : Int32)), iv o17, rv x786, iv 1, .unset] [])
          have J791 : Own.Stp Z consts_1 vm602 h602 vm783 h786 [] := Own.Stp.trans J783 J786 (all0) all0
          have J792 : Own.Stp Z consts_1 vm602 h602 vm783 h790 [] := Own.Stp.trans J791 J790 (all0) (allS (Or.inr (Nat.le_trans J783.1.1 (Nat.le_of_eq g_x786.symm))) all0)
          have St793 := J792.str SN nin0 nin0
          have J794 : Own.Stp Z consts_1 vm564 h564 vm783 h783 [] := Own.Stp.trans J602 J783 (all0) all0
          have J795 : Own.Stp Z consts_1 vm564 h564 vm783 h786 [] := Own.Stp.trans J794 J786 (all0) all0
          have J796 : Own.Stp Z consts_1 vm564 h564 vm783 h790 [] := Own.Stp.trans J795 J790 (all0) (allS (Or.inr (Nat.le_trans J794.1.1 (Nat.le_of_eq g_x786.symm))) all0)
          exact JA vm783 T790 h790 kk (5 : Int32) b12 xn tn csn it1 x783 ((q4 &&& (2147483647 : Int32)) % (11 : Int32)) o17 x786 y790 own_M5 (1 : Int32) (S790.mono (by decide) (by decide)) J796 St793 St790 hPn own_Pm5
        ·
          refine hG.st (fun t q => XS.ifNo S783.here hx rfl (hb hby at_197) rfl ((if0 _ _).trans (feq hc197).1) (XS.aload S783.here hx rfl (hb hby at_200) rfl rfl (XS.iload S783.here hx rfl (hb hby at_202) rfl (XS.iload S783.here hx rfl (hb hby at_204) rfl q)))) ?_
          show G T783 (mkF m 206 #[iv q0, iv q1, iv q2, iv q3, iv q4, iv q5, iv kk, iv mu1, iv cN, iv 5, iv mu2, iv cM, rv b12, rv xn, iv it1, rv x783, iv ((q4 &&& (2147483647 : Int32)) % (11 : Int32)), iv o17, .unset, .unset, .unset] [(.int cM), (.int ((q4 &&& (2147483647 : Int32)) % (11 : Int32))), (.ref x783)])
          refine Own.Sit.stC hG S783 hx V783 ga_x783 (own_ix _ (11 : Int32) (by decide)) ((q4 &&& (2147483647 : Int32)) % (11 : Int32)).toNatClampNeg rfl (by rw [List.length_map]; exact (own_ixn (n := (11 : Int32)) (own_ix _ (11 : Int32) (by decide)) (by decide))) rfl rfl (hb hby at_206) (fun T797 h797 S797 J797 V797 => ?_)
          rw [own_nar rcM, ← List.map_set] at V797
          show G T797 (mkF m 207 #[iv q0, iv q1, iv q2, iv q3, iv q4, iv q5, iv kk, iv mu1, iv cN, iv 5, iv mu2, iv cM, rv b12, rv xn, iv it1, rv x783, iv ((q4 &&& (2147483647 : Int32)) % (11 : Int32)), iv o17, .unset, .unset, .unset] [])
          refine Own.Sit.newO hG S797 hx (hW 6 _ rfl) (hW 7 _ rfl) (hW 8 _ rfl) rfl (hb hby at_207) (by decide) (by decide) (fun T798 h798 x798 g_x798 S798 J798 Sf798 E798 D798 => ?_)
          have lt_x798 := E798.lt
          have ga_x798 : Z.heap.size ≤ x798 := Nat.le_trans S797.le (Nat.le_of_eq g_x798.symm)
          have F799 : Fld Z h798 x798 "java/lang/String" "coder" "B" (.int 0) := D798 (Or.inr (hW 32 _ rfl)) (ty := .byte) (by decide)
          have F800 : Fld Z h798 x798 "java/lang/String" "value" "[B" .null := D798 (Or.inr (hW 34 _ rfl)) (ty := (.array .byte)) (by decide)
          refine hG.st (fun t q => XS.dup S798.here hx rfl (hb hby at_210) rfl rfl (XS.aload S798.here hx rfl (hb hby at_211) rfl rfl q)) ?_
          show G T798 (mkF m 213 #[iv q0, iv q1, iv q2, iv q3, iv q4, iv q5, iv kk, iv mu1, iv cN, iv 5, iv mu2, iv cM, rv b12, rv xn, iv it1, rv x783, iv ((q4 &&& (2147483647 : Int32)) % (11 : Int32)), iv o17, .unset, .unset, .unset] [(.ref x783), (.ref x798), (.ref x798)])
          have V801 := J798.arv V797 nin0
          refine Own.Sit.newStr hG S798 hx hWs hCm (hW 7 _ rfl) (hW 9 _ rfl) (hW 10 _ rfl) (cs := (own_M5.set ((q4 &&& (2147483647 : Int32)) % (11 : Int32)).toNatClampNeg cM)) ga_x798 Sf798 E798 F800 F799 V801 (by rw [List.length_set]; decide) (by rw [List.length_set]; decide) (by rw [List.length_set]; decide) (own_setr (by decide) rcM) (nn := 11) (by rw [List.length_set]; decide) rfl (hz _ rfl) (rest := [(.ref x798)]) rfl (W := 1) (Own.hw0 rfl rfl) (hb hby at_213) (by decide) (by decide) (by decide) (by decide) (fun T802 h802 y802 S802 J802 u802 St802 => ?_)
          refine hG.st (fun t q => XS.astore S802.here hx rfl (hb hby at_216) rfl rfl (l' := #[iv q0, iv q1, iv q2, iv q3, iv q4, iv q5, iv kk, iv mu1, iv cN, iv 5, iv mu2, iv cM, rv b12, rv xn, iv it1, rv x783, iv ((q4 &&& (2147483647 : Int32)) % (11 : Int32)), iv o17, rv x798, .unset, .unset]) rfl (XS.iload S802.here hx rfl (hb hby at_218) rfl (XS.ifNo S802.here hx rfl (hb hby at_220) rfl ((if0 _ _).trans (feq (hc197 : ¬ (mu2 = (0 : Int32)))).1) (XS.iload S802.here hx rfl (hb hby at_223) rfl (XS.iload S802.here hx rfl (hb hby at_225) rfl q))))) ?_
          show G T802 (mkF m 227 #[iv q0, iv q1, iv q2, iv q3, iv q4, iv q5, iv kk, iv mu1, iv cN, iv 5, iv mu2, iv cM, rv b12, rv xn, iv it1, rv x783, iv ((q4 &&& (2147483647 : Int32)) % (11 : Int32)), iv o17, rv x798, .unset, .unset] [(.int o17), (.int cM)])
          by_cases hc227 : cM = o17
          ·
            refine hG.st (fun t q => XS.icmpNo S802.here hx rfl (hb hby at_227) rfl (teq hc227).2 (XS.iconst S802.here hx rfl (hb hby at_230) (XS.goto S802.here hx rfl (pc0 := 231) (pc' := 235) rfl (hb hby at_231) (by decide) (by decide) (XS.istore S802.here hx rfl (hb hby at_235) rfl (l' := #[iv q0, iv q1, iv q2, iv q3, iv q4, iv q5, iv kk, iv mu1, iv cN, iv 5, iv mu2, iv cM, rv b12, rv xn, iv it1, rv x783, iv ((q4 &&& (2147483647 : Int32)) % (11 : Int32)), iv o17, rv x798, iv 1, .unset]) rfl q)))) ?_
            show G T802 (mkF m 237 #[iv q0, iv q1, iv q2, iv q3, iv q4, iv q5, iv kk, iv mu1, iv cN, iv 5, iv mu2, iv cM, rv b12, rv xn, iv it1, rv x783, iv ((q4 &&& (2147483647 : Int32)) % (11 : Int32)), iv o17, rv x798, iv 1, .unset] [])
            have J803 : Own.Stp Z consts_1 vm602 h602 vm783 h797 [] := Own.Stp.trans J783 J797 (all0) (allS (Or.inr u783) all0)
            have J804 : Own.Stp Z consts_1 vm602 h602 vm783 h798 [] := Own.Stp.trans J803 J798 (all0) all0
            have J805 : Own.Stp Z consts_1 vm602 h602 vm783 h802 [] := Own.Stp.trans J804 J802 (all0) (allS (Or.inr (Nat.le_trans J803.1.1 (Nat.le_of_eq g_x798.symm))) all0)
            have St806 := J805.str SN nin0 nin0
            have J807 : Own.Stp Z consts_1 vm564 h564 vm783 h783 [] := Own.Stp.trans J602 J783 (all0) all0
            have J808 : Own.Stp Z consts_1 vm564 h564 vm783 h797 [] := Own.Stp.trans J807 J797 (all0) (allS (Or.inr (Nat.le_trans J602.1.1 u783)) all0)
            have J809 : Own.Stp Z consts_1 vm564 h564 vm783 h798 [] := Own.Stp.trans J808 J798 (all0) all0
            have J810 : Own.Stp Z consts_1 vm564 h564 vm783 h802 [] := Own.Stp.trans J809 J802 (all0) (allS (Or.inr (Nat.le_trans J808.1.1 (Nat.le_of_eq g_x798.symm))) all0)
            exact JA vm783 T802 h802 kk (5 : Int32) b12 xn tn csn it1 x783 ((q4 &&& (2147483647 : Int32)) % (11 : Int32)) o17 x798 y802 (own_M5.set ((q4 &&& (2147483647 : Int32)) % (11 : Int32)).toNatClampNeg cM) (1 : Int32) (S802.mono (by decide) (by decide)) J810 St806 St802 hPn own_Pm5s
          ·
            refine hG.st (fun t q => XS.icmpYes S802.here hx rfl (pc0 := 227) (pc' := 234) rfl (hb hby at_227) rfl (feq hc227).2 (by decide) (by decide) (XS.iconst S802.here hx rfl (hb hby at_234) (XS.istore S802.here hx rfl (hb hby at_235) rfl (l' := #[iv q0, iv q1, iv q2, iv q3, iv q4, iv q5, iv kk, iv mu1, iv cN, iv 5, iv mu2, iv cM, rv b12, rv xn, iv it1, rv x783, iv ((q4 &&& (2147483647 : Int32)) % (11 : Int32)), iv o17, rv x798, iv 0, .unset]) rfl q))) ?_
            show G T802 (mkF m 237 #[iv q0, iv q1, iv q2, iv q3, iv q4, iv q5, iv kk, iv mu1, iv cN, iv 5, iv mu2, iv cM, rv b12, rv xn, iv it1, rv x783, iv ((q4 &&& (2147483647 : Int32)) % (11 : Int32)), iv o17, rv x798, iv 0, .unset] [])
            have J811 : Own.Stp Z consts_1 vm602 h602 vm783 h797 [] := Own.Stp.trans J783 J797 (all0) (allS (Or.inr u783) all0)
            have J812 : Own.Stp Z consts_1 vm602 h602 vm783 h798 [] := Own.Stp.trans J811 J798 (all0) all0
            have J813 : Own.Stp Z consts_1 vm602 h602 vm783 h802 [] := Own.Stp.trans J812 J802 (all0) (allS (Or.inr (Nat.le_trans J811.1.1 (Nat.le_of_eq g_x798.symm))) all0)
            have St814 := J813.str SN nin0 nin0
            have J815 : Own.Stp Z consts_1 vm564 h564 vm783 h783 [] := Own.Stp.trans J602 J783 (all0) all0
            have J816 : Own.Stp Z consts_1 vm564 h564 vm783 h797 [] := Own.Stp.trans J815 J797 (all0) (allS (Or.inr (Nat.le_trans J602.1.1 u783)) all0)
            have J817 : Own.Stp Z consts_1 vm564 h564 vm783 h798 [] := Own.Stp.trans J816 J798 (all0) all0
            have J818 : Own.Stp Z consts_1 vm564 h564 vm783 h802 [] := Own.Stp.trans J817 J802 (all0) (allS (Or.inr (Nat.le_trans J816.1.1 (Nat.le_of_eq g_x798.symm))) all0)
            exact JA vm783 T802 h802 kk (5 : Int32) b12 xn tn csn it1 x783 ((q4 &&& (2147483647 : Int32)) % (11 : Int32)) o17 x798 y802 (own_M5.set ((q4 &&& (2147483647 : Int32)) % (11 : Int32)).toNatClampNeg cM) (0 : Int32) (S802.mono (by decide) (by decide)) J818 St814 St802 hPn own_Pm5s
      by_cases hm6 : m0 = (6 : Int32)
      ·
        rw [hm6]
        show G T602 (mkF m 170 #[iv q0, iv q1, iv q2, iv q3, iv q4, iv q5, iv kk, iv mu1, iv cN, iv 6, iv mu2, iv cM, rv b12, rv xn, iv it1, s15, s16, .unset, .unset, .unset, .unset] [])
        refine hG.st (fun t q => XS.iload S602.here hx rfl (hb hby at_170) rfl q) ?_
        show G T602 (mkF m 172 #[iv q0, iv q1, iv q2, iv q3, iv q4, iv q5, iv kk, iv mu1, iv cN, iv 6, iv mu2, iv cM, rv b12, rv xn, iv it1, s15, s16, .unset, .unset, .unset, .unset] [(.int 6)])
        refine Own.Sit.callS hG S602 hx hEL (as := [(.int 6)]) (hW 35 _ rfl) (hW 36 _ rfl) (hW 2 _ rfl) (hW 37 _ rfl) (by decide) (own_nm6 l Z a0 H h602 S602.old) own_pd864215 rfl rfl (hz _ rfl) (rest := []) rfl (W := 0) (Own.hw0 rfl rfl) (hb hby at_172) (by decide) (by decide) (by decide) (by decide) (fun v819 vm819 T819 h819 S819 C819 q819 => ?_)
        obtain ⟨K819, x819, k819, rfl, u819, V819⟩ := q819
        have J819 : Own.Stp Z consts_1 vm602 h602 vm819 h819 [] := ⟨K819, C819⟩
        have ga_x819 : Z.heap.size ≤ x819 := Nat.le_trans S602.le u819
        refine hG.st (fun t q => XS.astore S819.here hx rfl (hb hby at_175) rfl rfl (l' := #[iv q0, iv q1, iv q2, iv q3, iv q4, iv q5, iv kk, iv mu1, iv cN, iv 6, iv mu2, iv cM, rv b12, rv xn, iv it1, rv x819, s16, .unset, .unset, .unset, .unset]) (own_os820 ho15) (XS.iload S819.here hx rfl (hb hby at_177) rfl q)) ?_
        show G T819 (mkF m 179 #[iv q0, iv q1, iv q2, iv q3, iv q4, iv q5, iv kk, iv mu1, iv cN, iv 6, iv mu2, iv cM, rv b12, rv xn, iv it1, rv x819, s16, .unset, .unset, .unset, .unset] [(.int q4)])
        refine Own.Sit.ldcI hG S819 hx (hW 5 _ rfl) rfl (hb hby at_179) ?_
        show G T819 (mkF m 181 #[iv q0, iv q1, iv q2, iv q3, iv q4, iv q5, iv kk, iv mu1, iv cN, iv 6, iv mu2, iv cM, rv b12, rv xn, iv it1, rv x819, s16, .unset, .unset, .unset, .unset] [(.int 2147483647), (.int q4)])
        refine hG.st (fun t q => XS.iand S819.here hx rfl (hb hby at_181) rfl (XS.aload S819.here hx rfl (hb hby at_182) rfl rfl q)) ?_
        show G T819 (mkF m 184 #[iv q0, iv q1, iv q2, iv q3, iv q4, iv q5, iv kk, iv mu1, iv cN, iv 6, iv mu2, iv cM, rv b12, rv xn, iv it1, rv x819, s16, .unset, .unset, .unset, .unset] [(.ref x819), (.int (q4 &&& (2147483647 : Int32)))])
        refine Own.Sit.arraylength hG S819 hx V819 rfl rfl (hb hby at_184) ?_
        show G T819 (mkF m 185 #[iv q0, iv q1, iv q2, iv q3, iv q4, iv q5, iv kk, iv mu1, iv cN, iv 6, iv mu2, iv cM, rv b12, rv xn, iv it1, rv x819, s16, .unset, .unset, .unset, .unset] [(.int 15), (.int (q4 &&& (2147483647 : Int32)))])
        refine hG.st (fun t q => Own.irem S819.here hx rfl (hb hby at_185) rfl (by decide) (XS.istore S819.here hx rfl (hb hby at_186) rfl (l' := #[iv q0, iv q1, iv q2, iv q3, iv q4, iv q5, iv kk, iv mu1, iv cN, iv 6, iv mu2, iv cM, rv b12, rv xn, iv it1, rv x819, iv ((q4 &&& (2147483647 : Int32)) % (15 : Int32)), .unset, .unset, .unset, .unset]) (own_os821 ho16) (XS.aload S819.here hx rfl (hb hby at_188) rfl rfl (XS.iload S819.here hx rfl (hb hby at_190) rfl q)))) ?_
        show G T819 (mkF m 192 #[iv q0, iv q1, iv q2, iv q3, iv q4, iv q5, iv kk, iv mu1, iv cN, iv 6, iv mu2, iv cM, rv b12, rv xn, iv it1, rv x819, iv ((q4 &&& (2147483647 : Int32)) % (15 : Int32)), .unset, .unset, .unset, .unset] [(.int ((q4 &&& (2147483647 : Int32)) % (15 : Int32))), (.ref x819)])
        refine Own.Sit.caload hG S819 hx V819 (own_ix _ (15 : Int32) (by decide)) (own_get (cs := own_M6) (own_ixn (n := (15 : Int32)) (own_ix _ (15 : Int32) (by decide)) (by decide))) rfl rfl (hb hby at_192) ?_
        obtain ⟨o17, eo17⟩ : ∃ z, z = own_M6.getD ((q4 &&& (2147483647 : Int32)) % (15 : Int32)).toNatClampNeg 0 := ⟨_, rfl⟩
        rw [← eo17]
        show G T819 (mkF m 193 #[iv q0, iv q1, iv q2, iv q3, iv q4, iv q5, iv kk, iv mu1, iv cN, iv 6, iv mu2, iv cM, rv b12, rv xn, iv it1, rv x819, iv ((q4 &&& (2147483647 : Int32)) % (15 : Int32)), .unset, .unset, .unset, .unset] [(.int o17)])
        refine hG.st (fun t q => XS.istore S819.here hx rfl (hb hby at_193) rfl (l' := #[iv q0, iv q1, iv q2, iv q3, iv q4, iv q5, iv kk, iv mu1, iv cN, iv 6, iv mu2, iv cM, rv b12, rv xn, iv it1, rv x819, iv ((q4 &&& (2147483647 : Int32)) % (15 : Int32)), iv o17, .unset, .unset, .unset]) rfl (XS.iload S819.here hx rfl (hb hby at_195) rfl q)) ?_
        show G T819 (mkF m 197 #[iv q0, iv q1, iv q2, iv q3, iv q4, iv q5, iv kk, iv mu1, iv cN, iv 6, iv mu2, iv cM, rv b12, rv xn, iv it1, rv x819, iv ((q4 &&& (2147483647 : Int32)) % (15 : Int32)), iv o17, .unset, .unset, .unset] [(.int mu2)])
        by_cases hc197 : mu2 = (0 : Int32)
        ·
          refine hG.st (fun t q => XS.ifYes S819.here hx rfl (pc0 := 197) (pc' := 207) rfl (hb hby at_197) rfl ((if0 _ _).trans (teq hc197).1) (by decide) (by decide) q) ?_
          show G T819 (mkF m 207 #[iv q0, iv q1, iv q2, iv q3, iv q4, iv q5, iv kk, iv mu1, iv cN, iv 6, iv mu2, iv cM, rv b12, rv xn, iv it1, rv x819, iv ((q4 &&& (2147483647 : Int32)) % (15 : Int32)), iv o17, .unset, .unset, .unset] [])
          refine Own.Sit.newO hG S819 hx (hW 6 _ rfl) (hW 7 _ rfl) (hW 8 _ rfl) rfl (hb hby at_207) (by decide) (by decide) (fun T822 h822 x822 g_x822 S822 J822 Sf822 E822 D822 => ?_)
          have lt_x822 := E822.lt
          have ga_x822 : Z.heap.size ≤ x822 := Nat.le_trans S819.le (Nat.le_of_eq g_x822.symm)
          have F823 : Fld Z h822 x822 "java/lang/String" "coder" "B" (.int 0) := D822 (Or.inr (hW 32 _ rfl)) (ty := .byte) (by decide)
          have F824 : Fld Z h822 x822 "java/lang/String" "value" "[B" .null := D822 (Or.inr (hW 34 _ rfl)) (ty := (.array .byte)) (by decide)
          refine hG.st (fun t q => XS.dup S822.here hx rfl (hb hby at_210) rfl rfl (XS.aload S822.here hx rfl (hb hby at_211) rfl rfl q)) ?_
          show G T822 (mkF m 213 #[iv q0, iv q1, iv q2, iv q3, iv q4, iv q5, iv kk, iv mu1, iv cN, iv 6, iv mu2, iv cM, rv b12, rv xn, iv it1, rv x819, iv ((q4 &&& (2147483647 : Int32)) % (15 : Int32)), iv o17, .unset, .unset, .unset] [(.ref x819), (.ref x822), (.ref x822)])
          have V825 := J822.arv V819 nin0
          refine Own.Sit.newStr hG S822 hx hWs hCm (hW 7 _ rfl) (hW 9 _ rfl) (hW 10 _ rfl) (cs := own_M6) ga_x822 Sf822 E822 F824 F823 V825 (by decide) (by decide) (by decide) (by decide) (nn := 15) (by decide) rfl (hz _ rfl) (rest := [(.ref x822)]) rfl (W := 1) (Own.hw0 rfl rfl) (hb hby at_213) (by decide) (by decide) (by decide) (by decide) (fun T826 h826 y826 S826 J826 u826 St826 => ?_)
          refine hG.st (fun t q => XS.astore S826.here hx rfl (hb hby at_216) rfl rfl (l' := #[iv q0, iv q1, iv q2, iv q3, iv q4, iv q5, iv kk, iv mu1, iv cN, iv 6, iv mu2, iv cM, rv b12, rv xn, iv it1, rv x819, iv ((q4 &&& (2147483647 : Int32)) % (15 : Int32)), iv o17, rv x822, .unset, .unset]) rfl (XS.iload S826.here hx rfl (hb hby at_218) rfl (XS.ifYes S826.here hx rfl (pc0 := 220) (pc' := 230) rfl (hb hby at_220) rfl ((if0 _ _).trans (teq (hc197 : mu2 = (0 : Int32))).1) (by decide) (by decide) (XS.iconst S826.here hx rfl (hb hby at_230) (XS.goto S826.here hx rfl (pc0 := 231) (pc' := 235) rfl (hb hby at_231) (by decide) (by decide) (XS.istore S826.here hx rfl (hb hby at_235) rfl (l' := #[iv q0, iv q1, iv q2, iv q3, iv q4, iv q5, iv kk, iv mu1, iv cN, iv 6, iv mu2, iv cM, rv b12, rv xn, iv it1, rv x819, iv ((q4 &&& (2147483647 : Int32)) % (15 : Int32)), iv o17, rv x822, iv 1, .unset]) rfl q)))))) ?_
          show G T826 (mkF m 237 #[iv q0, iv q1, iv q2, iv q3, iv q4, iv q5, iv kk, iv mu1, iv cN, iv 6, iv mu2, iv cM, rv b12, rv xn, iv it1, rv x819, iv ((q4 &&& (2147483647 : Int32)) % (15 : Int32)), iv o17, rv x822, iv 1, .unset] [])
          have J827 : Own.Stp Z consts_1 vm602 h602 vm819 h822 [] := Own.Stp.trans J819 J822 (all0) all0
          have J828 : Own.Stp Z consts_1 vm602 h602 vm819 h826 [] := Own.Stp.trans J827 J826 (all0) (allS (Or.inr (Nat.le_trans J819.1.1 (Nat.le_of_eq g_x822.symm))) all0)
          have St829 := J828.str SN nin0 nin0
          have J830 : Own.Stp Z consts_1 vm564 h564 vm819 h819 [] := Own.Stp.trans J602 J819 (all0) all0
          have J831 : Own.Stp Z consts_1 vm564 h564 vm819 h822 [] := Own.Stp.trans J830 J822 (all0) all0
          have J832 : Own.Stp Z consts_1 vm564 h564 vm819 h826 [] := Own.Stp.trans J831 J826 (all0) (allS (Or.inr (Nat.le_trans J830.1.1 (Nat.le_of_eq g_x822.symm))) all0)
          exact JA vm819 T826 h826 kk (6 : Int32) b12 xn tn csn it1 x819 ((q4 &&& (2147483647 : Int32)) % (15 : Int32)) o17 x822 y826 own_M6 (1 : Int32) (S826.mono (by decide) (by decide)) J832 St829 St826 hPn own_Pm6
        ·
          refine hG.st (fun t q => XS.ifNo S819.here hx rfl (hb hby at_197) rfl ((if0 _ _).trans (feq hc197).1) (XS.aload S819.here hx rfl (hb hby at_200) rfl rfl (XS.iload S819.here hx rfl (hb hby at_202) rfl (XS.iload S819.here hx rfl (hb hby at_204) rfl q)))) ?_
          show G T819 (mkF m 206 #[iv q0, iv q1, iv q2, iv q3, iv q4, iv q5, iv kk, iv mu1, iv cN, iv 6, iv mu2, iv cM, rv b12, rv xn, iv it1, rv x819, iv ((q4 &&& (2147483647 : Int32)) % (15 : Int32)), iv o17, .unset, .unset, .unset] [(.int cM), (.int ((q4 &&& (2147483647 : Int32)) % (15 : Int32))), (.ref x819)])
          refine Own.Sit.stC hG S819 hx V819 ga_x819 (own_ix _ (15 : Int32) (by decide)) ((q4 &&& (2147483647 : Int32)) % (15 : Int32)).toNatClampNeg rfl (by rw [List.length_map]; exact (own_ixn (n := (15 : Int32)) (own_ix _ (15 : Int32) (by decide)) (by decide))) rfl rfl (hb hby at_206) (fun T833 h833 S833 J833 V833 => ?_)
          rw [own_nar rcM, ← List.map_set] at V833
          show G T833 (mkF m 207 #[iv q0, iv q1, iv q2, iv q3, iv q4, iv q5, iv kk, iv mu1, iv cN, iv 6, iv mu2, iv cM, rv b12, rv xn, iv it1, rv x819, iv ((q4 &&& (2147483647 : Int32)) % (15 : Int32)), iv o17, .unset, .unset, .unset] [])
          refine Own.Sit.newO hG S833 hx (hW 6 _ rfl) (hW 7 _ rfl) (hW 8 _ rfl) rfl (hb hby at_207) (by decide) (by decide) (fun T834 h834 x834 g_x834 S834 J834 Sf834 E834 D834 => ?_)
          have lt_x834 := E834.lt
          have ga_x834 : Z.heap.size ≤ x834 := Nat.le_trans S833.le (Nat.le_of_eq g_x834.symm)
          have F835 : Fld Z h834 x834 "java/lang/String" "coder" "B" (.int 0) := D834 (Or.inr (hW 32 _ rfl)) (ty := .byte) (by decide)
          have F836 : Fld Z h834 x834 "java/lang/String" "value" "[B" .null := D834 (Or.inr (hW 34 _ rfl)) (ty := (.array .byte)) (by decide)
          refine hG.st (fun t q => XS.dup S834.here hx rfl (hb hby at_210) rfl rfl (XS.aload S834.here hx rfl (hb hby at_211) rfl rfl q)) ?_
          show G T834 (mkF m 213 #[iv q0, iv q1, iv q2, iv q3, iv q4, iv q5, iv kk, iv mu1, iv cN, iv 6, iv mu2, iv cM, rv b12, rv xn, iv it1, rv x819, iv ((q4 &&& (2147483647 : Int32)) % (15 : Int32)), iv o17, .unset, .unset, .unset] [(.ref x819), (.ref x834), (.ref x834)])
          have V837 := J834.arv V833 nin0
          refine Own.Sit.newStr hG S834 hx hWs hCm (hW 7 _ rfl) (hW 9 _ rfl) (hW 10 _ rfl) (cs := (own_M6.set ((q4 &&& (2147483647 : Int32)) % (15 : Int32)).toNatClampNeg cM)) ga_x834 Sf834 E834 F836 F835 V837 (by rw [List.length_set]; decide) (by rw [List.length_set]; decide) (by rw [List.length_set]; decide) (own_setr (by decide) rcM) (nn := 15) (by rw [List.length_set]; decide) rfl (hz _ rfl) (rest := [(.ref x834)]) rfl (W := 1) (Own.hw0 rfl rfl) (hb hby at_213) (by decide) (by decide) (by decide) (by decide) (fun T838 h838 y838 S838 J838 u838 St838 => ?_)
          refine hG.st (fun t q => XS.astore S838.here hx rfl (hb hby at_216) rfl rfl (l' := #[iv q0, iv q1, iv q2, iv q3, iv q4, iv q5, iv kk, iv mu1, iv cN, iv 6, iv mu2, iv cM, rv b12, rv xn, iv it1, rv x819, iv ((q4 &&& (2147483647 : Int32)) % (15 : Int32)), iv o17, rv x834, .unset, .unset]) rfl (XS.iload S838.here hx rfl (hb hby at_218) rfl (XS.ifNo S838.here hx rfl (hb hby at_220) rfl ((if0 _ _).trans (feq (hc197 : ¬ (mu2 = (0 : Int32)))).1) (XS.iload S838.here hx rfl (hb hby at_223) rfl (XS.iload S838.here hx rfl (hb hby at_225) rfl q))))) ?_
          show G T838 (mkF m 227 #[iv q0, iv q1, iv q2, iv q3, iv q4, iv q5, iv kk, iv mu1, iv cN, iv 6, iv mu2, iv cM, rv b12, rv xn, iv it1, rv x819, iv ((q4 &&& (2147483647 : Int32)) % (15 : Int32)), iv o17, rv x834, .unset, .unset] [(.int o17), (.int cM)])
          by_cases hc227 : cM = o17
          ·
            refine hG.st (fun t q => XS.icmpNo S838.here hx rfl (hb hby at_227) rfl (teq hc227).2 (XS.iconst S838.here hx rfl (hb hby at_230) (XS.goto S838.here hx rfl (pc0 := 231) (pc' := 235) rfl (hb hby at_231) (by decide) (by decide) (XS.istore S838.here hx rfl (hb hby at_235) rfl (l' := #[iv q0, iv q1, iv q2, iv q3, iv q4, iv q5, iv kk, iv mu1, iv cN, iv 6, iv mu2, iv cM, rv b12, rv xn, iv it1, rv x819, iv ((q4 &&& (2147483647 : Int32)) % (15 : Int32)), iv o17, rv x834, iv 1, .unset]) rfl q)))) ?_
            show G T838 (mkF m 237 #[iv q0, iv q1, iv q2, iv q3, iv q4, iv q5, iv kk, iv mu1, iv cN, iv 6, iv mu2, iv cM, rv b12, rv xn, iv it1, rv x819, iv ((q4 &&& (2147483647 : Int32)) % (15 : Int32)), iv o17, rv x834, iv 1, .unset] [])
            have J839 : Own.Stp Z consts_1 vm602 h602 vm819 h833 [] := Own.Stp.trans J819 J833 (all0) (allS (Or.inr u819) all0)
            have J840 : Own.Stp Z consts_1 vm602 h602 vm819 h834 [] := Own.Stp.trans J839 J834 (all0) all0
            have J841 : Own.Stp Z consts_1 vm602 h602 vm819 h838 [] := Own.Stp.trans J840 J838 (all0) (allS (Or.inr (Nat.le_trans J839.1.1 (Nat.le_of_eq g_x834.symm))) all0)
            have St842 := J841.str SN nin0 nin0
            have J843 : Own.Stp Z consts_1 vm564 h564 vm819 h819 [] := Own.Stp.trans J602 J819 (all0) all0
            have J844 : Own.Stp Z consts_1 vm564 h564 vm819 h833 [] := Own.Stp.trans J843 J833 (all0) (allS (Or.inr (Nat.le_trans J602.1.1 u819)) all0)
            have J845 : Own.Stp Z consts_1 vm564 h564 vm819 h834 [] := Own.Stp.trans J844 J834 (all0) all0
            have J846 : Own.Stp Z consts_1 vm564 h564 vm819 h838 [] := Own.Stp.trans J845 J838 (all0) (allS (Or.inr (Nat.le_trans J844.1.1 (Nat.le_of_eq g_x834.symm))) all0)
            exact JA vm819 T838 h838 kk (6 : Int32) b12 xn tn csn it1 x819 ((q4 &&& (2147483647 : Int32)) % (15 : Int32)) o17 x834 y838 (own_M6.set ((q4 &&& (2147483647 : Int32)) % (15 : Int32)).toNatClampNeg cM) (1 : Int32) (S838.mono (by decide) (by decide)) J846 St842 St838 hPn own_Pm6s
          ·
            refine hG.st (fun t q => XS.icmpYes S838.here hx rfl (pc0 := 227) (pc' := 234) rfl (hb hby at_227) rfl (feq hc227).2 (by decide) (by decide) (XS.iconst S838.here hx rfl (hb hby at_234) (XS.istore S838.here hx rfl (hb hby at_235) rfl (l' := #[iv q0, iv q1, iv q2, iv q3, iv q4, iv q5, iv kk, iv mu1, iv cN, iv 6, iv mu2, iv cM, rv b12, rv xn, iv it1, rv x819, iv ((q4 &&& (2147483647 : Int32)) % (15 : Int32)), iv o17, rv x834, iv 0, .unset]) rfl q))) ?_
            show G T838 (mkF m 237 #[iv q0, iv q1, iv q2, iv q3, iv q4, iv q5, iv kk, iv mu1, iv cN, iv 6, iv mu2, iv cM, rv b12, rv xn, iv it1, rv x819, iv ((q4 &&& (2147483647 : Int32)) % (15 : Int32)), iv o17, rv x834, iv 0, .unset] [])
            have J847 : Own.Stp Z consts_1 vm602 h602 vm819 h833 [] := Own.Stp.trans J819 J833 (all0) (allS (Or.inr u819) all0)
            have J848 : Own.Stp Z consts_1 vm602 h602 vm819 h834 [] := Own.Stp.trans J847 J834 (all0) all0
            have J849 : Own.Stp Z consts_1 vm602 h602 vm819 h838 [] := Own.Stp.trans J848 J838 (all0) (allS (Or.inr (Nat.le_trans J847.1.1 (Nat.le_of_eq g_x834.symm))) all0)
            have St850 := J849.str SN nin0 nin0
            have J851 : Own.Stp Z consts_1 vm564 h564 vm819 h819 [] := Own.Stp.trans J602 J819 (all0) all0
            have J852 : Own.Stp Z consts_1 vm564 h564 vm819 h833 [] := Own.Stp.trans J851 J833 (all0) (allS (Or.inr (Nat.le_trans J602.1.1 u819)) all0)
            have J853 : Own.Stp Z consts_1 vm564 h564 vm819 h834 [] := Own.Stp.trans J852 J834 (all0) all0
            have J854 : Own.Stp Z consts_1 vm564 h564 vm819 h838 [] := Own.Stp.trans J853 J838 (all0) (allS (Or.inr (Nat.le_trans J852.1.1 (Nat.le_of_eq g_x834.symm))) all0)
            exact JA vm819 T838 h838 kk (6 : Int32) b12 xn tn csn it1 x819 ((q4 &&& (2147483647 : Int32)) % (15 : Int32)) o17 x834 y838 (own_M6.set ((q4 &&& (2147483647 : Int32)) % (15 : Int32)).toNatClampNeg cM) (0 : Int32) (S838.mono (by decide) (by decide)) J854 St850 St838 hPn own_Pm6s
      rw [own_sevenB em0 hm0 hm1 hm2 hm3 hm4 hm5 hm6]
      show G T602 (mkF m 170 #[iv q0, iv q1, iv q2, iv q3, iv q4, iv q5, iv kk, iv mu1, iv cN, iv 7, iv mu2, iv cM, rv b12, rv xn, iv it1, s15, s16, .unset, .unset, .unset, .unset] [])
      refine hG.st (fun t q => XS.iload S602.here hx rfl (hb hby at_170) rfl q) ?_
      show G T602 (mkF m 172 #[iv q0, iv q1, iv q2, iv q3, iv q4, iv q5, iv kk, iv mu1, iv cN, iv 7, iv mu2, iv cM, rv b12, rv xn, iv it1, s15, s16, .unset, .unset, .unset, .unset] [(.int 7)])
      refine Own.Sit.callS hG S602 hx hEL (as := [(.int 7)]) (hW 35 _ rfl) (hW 36 _ rfl) (hW 2 _ rfl) (hW 37 _ rfl) (by decide) (own_nm7 l Z a0 H h602 S602.old) own_pd864215 rfl rfl (hz _ rfl) (rest := []) rfl (W := 0) (Own.hw0 rfl rfl) (hb hby at_172) (by decide) (by decide) (by decide) (by decide) (fun v855 vm855 T855 h855 S855 C855 q855 => ?_)
      obtain ⟨K855, x855, k855, rfl, u855, V855⟩ := q855
      have J855 : Own.Stp Z consts_1 vm602 h602 vm855 h855 [] := ⟨K855, C855⟩
      have ga_x855 : Z.heap.size ≤ x855 := Nat.le_trans S602.le u855
      refine hG.st (fun t q => XS.astore S855.here hx rfl (hb hby at_175) rfl rfl (l' := #[iv q0, iv q1, iv q2, iv q3, iv q4, iv q5, iv kk, iv mu1, iv cN, iv 7, iv mu2, iv cM, rv b12, rv xn, iv it1, rv x855, s16, .unset, .unset, .unset, .unset]) (own_os856 ho15) (XS.iload S855.here hx rfl (hb hby at_177) rfl q)) ?_
      show G T855 (mkF m 179 #[iv q0, iv q1, iv q2, iv q3, iv q4, iv q5, iv kk, iv mu1, iv cN, iv 7, iv mu2, iv cM, rv b12, rv xn, iv it1, rv x855, s16, .unset, .unset, .unset, .unset] [(.int q4)])
      refine Own.Sit.ldcI hG S855 hx (hW 5 _ rfl) rfl (hb hby at_179) ?_
      show G T855 (mkF m 181 #[iv q0, iv q1, iv q2, iv q3, iv q4, iv q5, iv kk, iv mu1, iv cN, iv 7, iv mu2, iv cM, rv b12, rv xn, iv it1, rv x855, s16, .unset, .unset, .unset, .unset] [(.int 2147483647), (.int q4)])
      refine hG.st (fun t q => XS.iand S855.here hx rfl (hb hby at_181) rfl (XS.aload S855.here hx rfl (hb hby at_182) rfl rfl q)) ?_
      show G T855 (mkF m 184 #[iv q0, iv q1, iv q2, iv q3, iv q4, iv q5, iv kk, iv mu1, iv cN, iv 7, iv mu2, iv cM, rv b12, rv xn, iv it1, rv x855, s16, .unset, .unset, .unset, .unset] [(.ref x855), (.int (q4 &&& (2147483647 : Int32)))])
      refine Own.Sit.arraylength hG S855 hx V855 rfl rfl (hb hby at_184) ?_
      show G T855 (mkF m 185 #[iv q0, iv q1, iv q2, iv q3, iv q4, iv q5, iv kk, iv mu1, iv cN, iv 7, iv mu2, iv cM, rv b12, rv xn, iv it1, rv x855, s16, .unset, .unset, .unset, .unset] [(.int 14), (.int (q4 &&& (2147483647 : Int32)))])
      refine hG.st (fun t q => Own.irem S855.here hx rfl (hb hby at_185) rfl (by decide) (XS.istore S855.here hx rfl (hb hby at_186) rfl (l' := #[iv q0, iv q1, iv q2, iv q3, iv q4, iv q5, iv kk, iv mu1, iv cN, iv 7, iv mu2, iv cM, rv b12, rv xn, iv it1, rv x855, iv ((q4 &&& (2147483647 : Int32)) % (14 : Int32)), .unset, .unset, .unset, .unset]) (own_os857 ho16) (XS.aload S855.here hx rfl (hb hby at_188) rfl rfl (XS.iload S855.here hx rfl (hb hby at_190) rfl q)))) ?_
      show G T855 (mkF m 192 #[iv q0, iv q1, iv q2, iv q3, iv q4, iv q5, iv kk, iv mu1, iv cN, iv 7, iv mu2, iv cM, rv b12, rv xn, iv it1, rv x855, iv ((q4 &&& (2147483647 : Int32)) % (14 : Int32)), .unset, .unset, .unset, .unset] [(.int ((q4 &&& (2147483647 : Int32)) % (14 : Int32))), (.ref x855)])
      refine Own.Sit.caload hG S855 hx V855 (own_ix _ (14 : Int32) (by decide)) (own_get (cs := own_M7) (own_ixn (n := (14 : Int32)) (own_ix _ (14 : Int32) (by decide)) (by decide))) rfl rfl (hb hby at_192) ?_
      obtain ⟨o17, eo17⟩ : ∃ z, z = own_M7.getD ((q4 &&& (2147483647 : Int32)) % (14 : Int32)).toNatClampNeg 0 := ⟨_, rfl⟩
      rw [← eo17]
      show G T855 (mkF m 193 #[iv q0, iv q1, iv q2, iv q3, iv q4, iv q5, iv kk, iv mu1, iv cN, iv 7, iv mu2, iv cM, rv b12, rv xn, iv it1, rv x855, iv ((q4 &&& (2147483647 : Int32)) % (14 : Int32)), .unset, .unset, .unset, .unset] [(.int o17)])
      refine hG.st (fun t q => XS.istore S855.here hx rfl (hb hby at_193) rfl (l' := #[iv q0, iv q1, iv q2, iv q3, iv q4, iv q5, iv kk, iv mu1, iv cN, iv 7, iv mu2, iv cM, rv b12, rv xn, iv it1, rv x855, iv ((q4 &&& (2147483647 : Int32)) % (14 : Int32)), iv o17, .unset, .unset, .unset]) rfl (XS.iload S855.here hx rfl (hb hby at_195) rfl q)) ?_
      show G T855 (mkF m 197 #[iv q0, iv q1, iv q2, iv q3, iv q4, iv q5, iv kk, iv mu1, iv cN, iv 7, iv mu2, iv cM, rv b12, rv xn, iv it1, rv x855, iv ((q4 &&& (2147483647 : Int32)) % (14 : Int32)), iv o17, .unset, .unset, .unset] [(.int mu2)])
      by_cases hc197 : mu2 = (0 : Int32)
      ·
        refine hG.st (fun t q => XS.ifYes S855.here hx rfl (pc0 := 197) (pc' := 207) rfl (hb hby at_197) rfl ((if0 _ _).trans (teq hc197).1) (by decide) (by decide) q) ?_
        show G T855 (mkF m 207 #[iv q0, iv q1, iv q2, iv q3, iv q4, iv q5, iv kk, iv mu1, iv cN, iv 7, iv mu2, iv cM, rv b12, rv xn, iv it1, rv x855, iv ((q4 &&& (2147483647 : Int32)) % (14 : Int32)), iv o17, .unset, .unset, .unset] [])
        refine Own.Sit.newO hG S855 hx (hW 6 _ rfl) (hW 7 _ rfl) (hW 8 _ rfl) rfl (hb hby at_207) (by decide) (by decide) (fun T858 h858 x858 g_x858 S858 J858 Sf858 E858 D858 => ?_)
        have lt_x858 := E858.lt
        have ga_x858 : Z.heap.size ≤ x858 := Nat.le_trans S855.le (Nat.le_of_eq g_x858.symm)
        have F859 : Fld Z h858 x858 "java/lang/String" "coder" "B" (.int 0) := D858 (Or.inr (hW 32 _ rfl)) (ty := .byte) (by decide)
        have F860 : Fld Z h858 x858 "java/lang/String" "value" "[B" .null := D858 (Or.inr (hW 34 _ rfl)) (ty := (.array .byte)) (by decide)
        refine hG.st (fun t q => XS.dup S858.here hx rfl (hb hby at_210) rfl rfl (XS.aload S858.here hx rfl (hb hby at_211) rfl rfl q)) ?_
        show G T858 (mkF m 213 #[iv q0, iv q1, iv q2, iv q3, iv q4, iv q5, iv kk, iv mu1, iv cN, iv 7, iv mu2, iv cM, rv b12, rv xn, iv it1, rv x855, iv ((q4 &&& (2147483647 : Int32)) % (14 : Int32)), iv o17, .unset, .unset, .unset] [(.ref x855), (.ref x858), (.ref x858)])
        have V861 := J858.arv V855 nin0
        refine Own.Sit.newStr hG S858 hx hWs hCm (hW 7 _ rfl) (hW 9 _ rfl) (hW 10 _ rfl) (cs := own_M7) ga_x858 Sf858 E858 F860 F859 V861 (by decide) (by decide) (by decide) (by decide) (nn := 14) (by decide) rfl (hz _ rfl) (rest := [(.ref x858)]) rfl (W := 1) (Own.hw0 rfl rfl) (hb hby at_213) (by decide) (by decide) (by decide) (by decide) (fun T862 h862 y862 S862 J862 u862 St862 => ?_)
        refine hG.st (fun t q => XS.astore S862.here hx rfl (hb hby at_216) rfl rfl (l' := #[iv q0, iv q1, iv q2, iv q3, iv q4, iv q5, iv kk, iv mu1, iv cN, iv 7, iv mu2, iv cM, rv b12, rv xn, iv it1, rv x855, iv ((q4 &&& (2147483647 : Int32)) % (14 : Int32)), iv o17, rv x858, .unset, .unset]) rfl (XS.iload S862.here hx rfl (hb hby at_218) rfl (XS.ifYes S862.here hx rfl (pc0 := 220) (pc' := 230) rfl (hb hby at_220) rfl ((if0 _ _).trans (teq (hc197 : mu2 = (0 : Int32))).1) (by decide) (by decide) (XS.iconst S862.here hx rfl (hb hby at_230) (XS.goto S862.here hx rfl (pc0 := 231) (pc' := 235) rfl (hb hby at_231) (by decide) (by decide) (XS.istore S862.here hx rfl (hb hby at_235) rfl (l' := #[iv q0, iv q1, iv q2, iv q3, iv q4, iv q5, iv kk, iv mu1, iv cN, iv 7, iv mu2, iv cM, rv b12, rv xn, iv it1, rv x855, iv ((q4 &&& (2147483647 : Int32)) % (14 : Int32)), iv o17, rv x858, iv 1, .unset]) rfl q)))))) ?_
        show G T862 (mkF m 237 #[iv q0, iv q1, iv q2, iv q3, iv q4, iv q5, iv kk, iv mu1, iv cN, iv 7, iv mu2, iv cM, rv b12, rv xn, iv it1, rv x855, iv ((q4 &&& (2147483647 : Int32)) % (14 : Int32)), iv o17, rv x858, iv 1, .unset] [])
        have J863 : Own.Stp Z consts_1 vm602 h602 vm855 h858 [] := Own.Stp.trans J855 J858 (all0) all0
        have J864 : Own.Stp Z consts_1 vm602 h602 vm855 h862 [] := Own.Stp.trans J863 J862 (all0) (allS (Or.inr (Nat.le_trans J855.1.1 (Nat.le_of_eq g_x858.symm))) all0)
        have St865 := J864.str SN nin0 nin0
        have J866 : Own.Stp Z consts_1 vm564 h564 vm855 h855 [] := Own.Stp.trans J602 J855 (all0) all0
        have J867 : Own.Stp Z consts_1 vm564 h564 vm855 h858 [] := Own.Stp.trans J866 J858 (all0) all0
        have J868 : Own.Stp Z consts_1 vm564 h564 vm855 h862 [] := Own.Stp.trans J867 J862 (all0) (allS (Or.inr (Nat.le_trans J866.1.1 (Nat.le_of_eq g_x858.symm))) all0)
        exact JA vm855 T862 h862 kk (7 : Int32) b12 xn tn csn it1 x855 ((q4 &&& (2147483647 : Int32)) % (14 : Int32)) o17 x858 y862 own_M7 (1 : Int32) (S862.mono (by decide) (by decide)) J868 St865 St862 hPn own_Pm7
      ·
        refine hG.st (fun t q => XS.ifNo S855.here hx rfl (hb hby at_197) rfl ((if0 _ _).trans (feq hc197).1) (XS.aload S855.here hx rfl (hb hby at_200) rfl rfl (XS.iload S855.here hx rfl (hb hby at_202) rfl (XS.iload S855.here hx rfl (hb hby at_204) rfl q)))) ?_
        show G T855 (mkF m 206 #[iv q0, iv q1, iv q2, iv q3, iv q4, iv q5, iv kk, iv mu1, iv cN, iv 7, iv mu2, iv cM, rv b12, rv xn, iv it1, rv x855, iv ((q4 &&& (2147483647 : Int32)) % (14 : Int32)), iv o17, .unset, .unset, .unset] [(.int cM), (.int ((q4 &&& (2147483647 : Int32)) % (14 : Int32))), (.ref x855)])
        refine Own.Sit.stC hG S855 hx V855 ga_x855 (own_ix _ (14 : Int32) (by decide)) ((q4 &&& (2147483647 : Int32)) % (14 : Int32)).toNatClampNeg rfl (by rw [List.length_map]; exact (own_ixn (n := (14 : Int32)) (own_ix _ (14 : Int32) (by decide)) (by decide))) rfl rfl (hb hby at_206) (fun T869 h869 S869 J869 V869 => ?_)
        rw [own_nar rcM, ← List.map_set] at V869
        show G T869 (mkF m 207 #[iv q0, iv q1, iv q2, iv q3, iv q4, iv q5, iv kk, iv mu1, iv cN, iv 7, iv mu2, iv cM, rv b12, rv xn, iv it1, rv x855, iv ((q4 &&& (2147483647 : Int32)) % (14 : Int32)), iv o17, .unset, .unset, .unset] [])
        refine Own.Sit.newO hG S869 hx (hW 6 _ rfl) (hW 7 _ rfl) (hW 8 _ rfl) rfl (hb hby at_207) (by decide) (by decide) (fun T870 h870 x870 g_x870 S870 J870 Sf870 E870 D870 => ?_)
        have lt_x870 := E870.lt
        have ga_x870 : Z.heap.size ≤ x870 := Nat.le_trans S869.le (Nat.le_of_eq g_x870.symm)
        have F871 : Fld Z h870 x870 "java/lang/String" "coder" "B" (.int 0) := D870 (Or.inr (hW 32 _ rfl)) (ty := .byte) (by decide)
        have F872 : Fld Z h870 x870 "java/lang/String" "value" "[B" .null := D870 (Or.inr (hW 34 _ rfl)) (ty := (.array .byte)) (by decide)
        refine hG.st (fun t q => XS.dup S870.here hx rfl (hb hby at_210) rfl rfl (XS.aload S870.here hx rfl (hb hby at_211) rfl rfl q)) ?_
        show G T870 (mkF m 213 #[iv q0, iv q1, iv q2, iv q3, iv q4, iv q5, iv kk, iv mu1, iv cN, iv 7, iv mu2, iv cM, rv b12, rv xn, iv it1, rv x855, iv ((q4 &&& (2147483647 : Int32)) % (14 : Int32)), iv o17, .unset, .unset, .unset] [(.ref x855), (.ref x870), (.ref x870)])
        have V873 := J870.arv V869 nin0
        refine Own.Sit.newStr hG S870 hx hWs hCm (hW 7 _ rfl) (hW 9 _ rfl) (hW 10 _ rfl) (cs := (own_M7.set ((q4 &&& (2147483647 : Int32)) % (14 : Int32)).toNatClampNeg cM)) ga_x870 Sf870 E870 F872 F871 V873 (by rw [List.length_set]; decide) (by rw [List.length_set]; decide) (by rw [List.length_set]; decide) (own_setr (by decide) rcM) (nn := 14) (by rw [List.length_set]; decide) rfl (hz _ rfl) (rest := [(.ref x870)]) rfl (W := 1) (Own.hw0 rfl rfl) (hb hby at_213) (by decide) (by decide) (by decide) (by decide) (fun T874 h874 y874 S874 J874 u874 St874 => ?_)
        refine hG.st (fun t q => XS.astore S874.here hx rfl (hb hby at_216) rfl rfl (l' := #[iv q0, iv q1, iv q2, iv q3, iv q4, iv q5, iv kk, iv mu1, iv cN, iv 7, iv mu2, iv cM, rv b12, rv xn, iv it1, rv x855, iv ((q4 &&& (2147483647 : Int32)) % (14 : Int32)), iv o17, rv x870, .unset, .unset]) rfl (XS.iload S874.here hx rfl (hb hby at_218) rfl (XS.ifNo S874.here hx rfl (hb hby at_220) rfl ((if0 _ _).trans (feq (hc197 : ¬ (mu2 = (0 : Int32)))).1) (XS.iload S874.here hx rfl (hb hby at_223) rfl (XS.iload S874.here hx rfl (hb hby at_225) rfl q))))) ?_
        show G T874 (mkF m 227 #[iv q0, iv q1, iv q2, iv q3, iv q4, iv q5, iv kk, iv mu1, iv cN, iv 7, iv mu2, iv cM, rv b12, rv xn, iv it1, rv x855, iv ((q4 &&& (2147483647 : Int32)) % (14 : Int32)), iv o17, rv x870, .unset, .unset] [(.int o17), (.int cM)])
        by_cases hc227 : cM = o17
        ·
          refine hG.st (fun t q => XS.icmpNo S874.here hx rfl (hb hby at_227) rfl (teq hc227).2 (XS.iconst S874.here hx rfl (hb hby at_230) (XS.goto S874.here hx rfl (pc0 := 231) (pc' := 235) rfl (hb hby at_231) (by decide) (by decide) (XS.istore S874.here hx rfl (hb hby at_235) rfl (l' := #[iv q0, iv q1, iv q2, iv q3, iv q4, iv q5, iv kk, iv mu1, iv cN, iv 7, iv mu2, iv cM, rv b12, rv xn, iv it1, rv x855, iv ((q4 &&& (2147483647 : Int32)) % (14 : Int32)), iv o17, rv x870, iv 1, .unset]) rfl q)))) ?_
          show G T874 (mkF m 237 #[iv q0, iv q1, iv q2, iv q3, iv q4, iv q5, iv kk, iv mu1, iv cN, iv 7, iv mu2, iv cM, rv b12, rv xn, iv it1, rv x855, iv ((q4 &&& (2147483647 : Int32)) % (14 : Int32)), iv o17, rv x870, iv 1, .unset] [])
          have J875 : Own.Stp Z consts_1 vm602 h602 vm855 h869 [] := Own.Stp.trans J855 J869 (all0) (allS (Or.inr u855) all0)
          have J876 : Own.Stp Z consts_1 vm602 h602 vm855 h870 [] := Own.Stp.trans J875 J870 (all0) all0
          have J877 : Own.Stp Z consts_1 vm602 h602 vm855 h874 [] := Own.Stp.trans J876 J874 (all0) (allS (Or.inr (Nat.le_trans J875.1.1 (Nat.le_of_eq g_x870.symm))) all0)
          have St878 := J877.str SN nin0 nin0
          have J879 : Own.Stp Z consts_1 vm564 h564 vm855 h855 [] := Own.Stp.trans J602 J855 (all0) all0
          have J880 : Own.Stp Z consts_1 vm564 h564 vm855 h869 [] := Own.Stp.trans J879 J869 (all0) (allS (Or.inr (Nat.le_trans J602.1.1 u855)) all0)
          have J881 : Own.Stp Z consts_1 vm564 h564 vm855 h870 [] := Own.Stp.trans J880 J870 (all0) all0
          have J882 : Own.Stp Z consts_1 vm564 h564 vm855 h874 [] := Own.Stp.trans J881 J874 (all0) (allS (Or.inr (Nat.le_trans J880.1.1 (Nat.le_of_eq g_x870.symm))) all0)
          exact JA vm855 T874 h874 kk (7 : Int32) b12 xn tn csn it1 x855 ((q4 &&& (2147483647 : Int32)) % (14 : Int32)) o17 x870 y874 (own_M7.set ((q4 &&& (2147483647 : Int32)) % (14 : Int32)).toNatClampNeg cM) (1 : Int32) (S874.mono (by decide) (by decide)) J882 St878 St874 hPn own_Pm7s
        ·
          refine hG.st (fun t q => XS.icmpYes S874.here hx rfl (pc0 := 227) (pc' := 234) rfl (hb hby at_227) rfl (feq hc227).2 (by decide) (by decide) (XS.iconst S874.here hx rfl (hb hby at_234) (XS.istore S874.here hx rfl (hb hby at_235) rfl (l' := #[iv q0, iv q1, iv q2, iv q3, iv q4, iv q5, iv kk, iv mu1, iv cN, iv 7, iv mu2, iv cM, rv b12, rv xn, iv it1, rv x855, iv ((q4 &&& (2147483647 : Int32)) % (14 : Int32)), iv o17, rv x870, iv 0, .unset]) rfl q))) ?_
          show G T874 (mkF m 237 #[iv q0, iv q1, iv q2, iv q3, iv q4, iv q5, iv kk, iv mu1, iv cN, iv 7, iv mu2, iv cM, rv b12, rv xn, iv it1, rv x855, iv ((q4 &&& (2147483647 : Int32)) % (14 : Int32)), iv o17, rv x870, iv 0, .unset] [])
          have J883 : Own.Stp Z consts_1 vm602 h602 vm855 h869 [] := Own.Stp.trans J855 J869 (all0) (allS (Or.inr u855) all0)
          have J884 : Own.Stp Z consts_1 vm602 h602 vm855 h870 [] := Own.Stp.trans J883 J870 (all0) all0
          have J885 : Own.Stp Z consts_1 vm602 h602 vm855 h874 [] := Own.Stp.trans J884 J874 (all0) (allS (Or.inr (Nat.le_trans J883.1.1 (Nat.le_of_eq g_x870.symm))) all0)
          have St886 := J885.str SN nin0 nin0
          have J887 : Own.Stp Z consts_1 vm564 h564 vm855 h855 [] := Own.Stp.trans J602 J855 (all0) all0
          have J888 : Own.Stp Z consts_1 vm564 h564 vm855 h869 [] := Own.Stp.trans J887 J869 (all0) (allS (Or.inr (Nat.le_trans J602.1.1 u855)) all0)
          have J889 : Own.Stp Z consts_1 vm564 h564 vm855 h870 [] := Own.Stp.trans J888 J870 (all0) all0
          have J890 : Own.Stp Z consts_1 vm564 h564 vm855 h874 [] := Own.Stp.trans J889 J874 (all0) (allS (Or.inr (Nat.le_trans J888.1.1 (Nat.le_of_eq g_x870.symm))) all0)
          exact JA vm855 T874 h874 kk (7 : Int32) b12 xn tn csn it1 x855 ((q4 &&& (2147483647 : Int32)) % (14 : Int32)) o17 x870 y874 (own_M7.set ((q4 &&& (2147483647 : Int32)) % (14 : Int32)).toNatClampNeg cM) (0 : Int32) (S874.mono (by decide) (by decide)) J890 St886 St874 hPn own_Pm7s
    by_cases hk0 : k0 = (0 : Int32)
    ·
      rw [hk0]
      show G T564 (mkF m 59 #[iv q0, iv q1, iv q2, iv q3, iv q4, iv q5, iv 0, iv mu1, iv cN, iv m0, iv mu2, iv cM, .unset, .unset, .unset, .unset, .unset, .unset, .unset, .unset, .unset] [])
      refine hG.st (fun t q => XS.iload S564.here hx rfl (hb hby at_59) rfl q) ?_
      show G T564 (mkF m 61 #[iv q0, iv q1, iv q2, iv q3, iv q4, iv q5, iv 0, iv mu1, iv cN, iv m0, iv mu2, iv cM, .unset, .unset, .unset, .unset, .unset, .unset, .unset, .unset, .unset] [(.int 0)])
      refine Own.Sit.callS hG S564 hx hEL (as := [(.int 0)]) (hW 0 _ rfl) (hW 1 _ rfl) (hW 2 _ rfl) (hW 3 _ rfl) (by decide) (own_ns0 l Z a0 H h564 S564.old) own_pd864215 rfl rfl (hz _ rfl) (rest := []) rfl (W := 0) (Own.hw0 rfl rfl) (hb hby at_61) (by decide) (by decide) (by decide) (by decide) (fun v891 vm891 T891 h891 S891 C891 q891 => ?_)
      obtain ⟨K891, x891, k891, rfl, u891, V891⟩ := q891
      have J891 : Own.Stp Z consts_1 vm564 h564 vm891 h891 [] := ⟨K891, C891⟩
      have ga_x891 : Z.heap.size ≤ x891 := Nat.le_trans S564.le u891
      refine hG.st (fun t q => XS.astore S891.here hx rfl (hb hby at_64) rfl rfl (l' := #[iv q0, iv q1, iv q2, iv q3, iv q4, iv q5, iv 0, iv mu1, iv cN, iv m0, iv mu2, iv cM, rv x891, .unset, .unset, .unset, .unset, .unset, .unset, .unset, .unset]) rfl (XS.aload S891.here hx rfl (hb hby at_66) rfl rfl q)) ?_
      show G T891 (mkF m 68 #[iv q0, iv q1, iv q2, iv q3, iv q4, iv q5, iv 0, iv mu1, iv cN, iv m0, iv mu2, iv cM, rv x891, .unset, .unset, .unset, .unset, .unset, .unset, .unset, .unset] [(.ref x891)])
      refine Own.Sit.arraylength hG S891 hx V891 rfl rfl (hb hby at_68) ?_
      show G T891 (mkF m 69 #[iv q0, iv q1, iv q2, iv q3, iv q4, iv q5, iv 0, iv mu1, iv cN, iv m0, iv mu2, iv cM, rv x891, .unset, .unset, .unset, .unset, .unset, .unset, .unset, .unset] [(.int 26)])
      refine hG.st (fun t q => XS.ifYes S891.here hx rfl (pc0 := 69) (pc' := 111) rfl (hb hby at_69) rfl ((if0 _ _).trans (feq (by decide : ¬ ((26 : Int32) = (0 : Int32)))).2) (by decide) (by decide) (XS.iloadN S891.here hx rfl (hb hby at_111) rfl q)) ?_
      show G T891 (mkF m 112 #[iv q0, iv q1, iv q2, iv q3, iv q4, iv q5, iv 0, iv mu1, iv cN, iv m0, iv mu2, iv cM, rv x891, .unset, .unset, .unset, .unset, .unset, .unset, .unset, .unset] [(.int q1)])
      refine Own.Sit.ldcI hG S891 hx (hW 5 _ rfl) rfl (hb hby at_112) ?_
      show G T891 (mkF m 114 #[iv q0, iv q1, iv q2, iv q3, iv q4, iv q5, iv 0, iv mu1, iv cN, iv m0, iv mu2, iv cM, rv x891, .unset, .unset, .unset, .unset, .unset, .unset, .unset, .unset] [(.int 2147483647), (.int q1)])
      refine hG.st (fun t q => XS.iand S891.here hx rfl (hb hby at_114) rfl (XS.aload S891.here hx rfl (hb hby at_115) rfl rfl q)) ?_
      show G T891 (mkF m 117 #[iv q0, iv q1, iv q2, iv q3, iv q4, iv q5, iv 0, iv mu1, iv cN, iv m0, iv mu2, iv cM, rv x891, .unset, .unset, .unset, .unset, .unset, .unset, .unset, .unset] [(.ref x891), (.int (q1 &&& (2147483647 : Int32)))])
      refine Own.Sit.arraylength hG S891 hx V891 rfl rfl (hb hby at_117) ?_
      show G T891 (mkF m 118 #[iv q0, iv q1, iv q2, iv q3, iv q4, iv q5, iv 0, iv mu1, iv cN, iv m0, iv mu2, iv cM, rv x891, .unset, .unset, .unset, .unset, .unset, .unset, .unset, .unset] [(.int 26), (.int (q1 &&& (2147483647 : Int32)))])
      refine hG.st (fun t q => Own.irem S891.here hx rfl (hb hby at_118) rfl (by decide) (XS.istore S891.here hx rfl (hb hby at_119) rfl (l' := #[iv q0, iv q1, iv q2, iv q3, iv q4, iv q5, iv 0, iv mu1, iv cN, iv m0, iv mu2, iv cM, rv x891, .unset, .unset, iv ((q1 &&& (2147483647 : Int32)) % (26 : Int32)), .unset, .unset, .unset, .unset, .unset]) rfl (XS.aload S891.here hx rfl (hb hby at_121) rfl rfl (XS.iload S891.here hx rfl (hb hby at_123) rfl q)))) ?_
      show G T891 (mkF m 125 #[iv q0, iv q1, iv q2, iv q3, iv q4, iv q5, iv 0, iv mu1, iv cN, iv m0, iv mu2, iv cM, rv x891, .unset, .unset, iv ((q1 &&& (2147483647 : Int32)) % (26 : Int32)), .unset, .unset, .unset, .unset, .unset] [(.int ((q1 &&& (2147483647 : Int32)) % (26 : Int32))), (.ref x891)])
      refine Own.Sit.caload hG S891 hx V891 (own_ix _ (26 : Int32) (by decide)) (own_get (cs := own_L0) (own_ixn (n := (26 : Int32)) (own_ix _ (26 : Int32) (by decide)) (by decide))) rfl rfl (hb hby at_125) ?_
      obtain ⟨o16, eo16⟩ : ∃ z, z = own_L0.getD ((q1 &&& (2147483647 : Int32)) % (26 : Int32)).toNatClampNeg 0 := ⟨_, rfl⟩
      rw [← eo16]
      show G T891 (mkF m 126 #[iv q0, iv q1, iv q2, iv q3, iv q4, iv q5, iv 0, iv mu1, iv cN, iv m0, iv mu2, iv cM, rv x891, .unset, .unset, iv ((q1 &&& (2147483647 : Int32)) % (26 : Int32)), .unset, .unset, .unset, .unset, .unset] [(.int o16)])
      refine hG.st (fun t q => XS.istore S891.here hx rfl (hb hby at_126) rfl (l' := #[iv q0, iv q1, iv q2, iv q3, iv q4, iv q5, iv 0, iv mu1, iv cN, iv m0, iv mu2, iv cM, rv x891, .unset, .unset, iv ((q1 &&& (2147483647 : Int32)) % (26 : Int32)), iv o16, .unset, .unset, .unset, .unset]) rfl (XS.iload S891.here hx rfl (hb hby at_128) rfl q)) ?_
      show G T891 (mkF m 130 #[iv q0, iv q1, iv q2, iv q3, iv q4, iv q5, iv 0, iv mu1, iv cN, iv m0, iv mu2, iv cM, rv x891, .unset, .unset, iv ((q1 &&& (2147483647 : Int32)) % (26 : Int32)), iv o16, .unset, .unset, .unset, .unset] [(.int mu1)])
      by_cases hc130 : mu1 = (0 : Int32)
      ·
        refine hG.st (fun t q => XS.ifYes S891.here hx rfl (pc0 := 130) (pc' := 140) rfl (hb hby at_130) rfl ((if0 _ _).trans (teq hc130).1) (by decide) (by decide) q) ?_
        show G T891 (mkF m 140 #[iv q0, iv q1, iv q2, iv q3, iv q4, iv q5, iv 0, iv mu1, iv cN, iv m0, iv mu2, iv cM, rv x891, .unset, .unset, iv ((q1 &&& (2147483647 : Int32)) % (26 : Int32)), iv o16, .unset, .unset, .unset, .unset] [])
        refine Own.Sit.newO hG S891 hx (hW 6 _ rfl) (hW 7 _ rfl) (hW 8 _ rfl) rfl (hb hby at_140) (by decide) (by decide) (fun T892 h892 x892 g_x892 S892 J892 Sf892 E892 D892 => ?_)
        have lt_x892 := E892.lt
        have ga_x892 : Z.heap.size ≤ x892 := Nat.le_trans S891.le (Nat.le_of_eq g_x892.symm)
        have F893 : Fld Z h892 x892 "java/lang/String" "coder" "B" (.int 0) := D892 (Or.inr (hW 32 _ rfl)) (ty := .byte) (by decide)
        have F894 : Fld Z h892 x892 "java/lang/String" "value" "[B" .null := D892 (Or.inr (hW 34 _ rfl)) (ty := (.array .byte)) (by decide)
        refine hG.st (fun t q => XS.dup S892.here hx rfl (hb hby at_143) rfl rfl (XS.aload S892.here hx rfl (hb hby at_144) rfl rfl q)) ?_
        show G T892 (mkF m 146 #[iv q0, iv q1, iv q2, iv q3, iv q4, iv q5, iv 0, iv mu1, iv cN, iv m0, iv mu2, iv cM, rv x891, .unset, .unset, iv ((q1 &&& (2147483647 : Int32)) % (26 : Int32)), iv o16, .unset, .unset, .unset, .unset] [(.ref x891), (.ref x892), (.ref x892)])
        have V895 := J892.arv V891 nin0
        refine Own.Sit.newStr hG S892 hx hWs hCm (hW 7 _ rfl) (hW 9 _ rfl) (hW 10 _ rfl) (cs := own_L0) ga_x892 Sf892 E892 F894 F893 V895 (by decide) (by decide) (by decide) (by decide) (nn := 26) (by decide) rfl (hz _ rfl) (rest := [(.ref x892)]) rfl (W := 1) (Own.hw0 rfl rfl) (hb hby at_146) (by decide) (by decide) (by decide) (by decide) (fun T896 h896 y896 S896 J896 u896 St896 => ?_)
        refine hG.st (fun t q => XS.astore S896.here hx rfl (hb hby at_149) rfl rfl (l' := #[iv q0, iv q1, iv q2, iv q3, iv q4, iv q5, iv 0, iv mu1, iv cN, iv m0, iv mu2, iv cM, rv x891, rv x892, .unset, iv ((q1 &&& (2147483647 : Int32)) % (26 : Int32)), iv o16, .unset, .unset, .unset, .unset]) rfl (XS.iload S896.here hx rfl (hb hby at_151) rfl (XS.ifYes S896.here hx rfl (pc0 := 153) (pc' := 163) rfl (hb hby at_153) rfl ((if0 _ _).trans (teq (hc130 : mu1 = (0 : Int32))).1) (by decide) (by decide) (XS.iconst S896.here hx rfl (hb hby at_163) (XS.goto S896.here hx rfl (pc0 := 164) (pc' := 168) rfl (hb hby at_164) (by decide) (by decide) (XS.istore S896.here hx rfl (hb hby at_168) rfl (l' := #[iv q0, iv q1, iv q2, iv q3, iv q4, iv q5, iv 0, iv mu1, iv cN, iv m0, iv mu2, iv cM, rv x891, rv x892, iv 1, iv ((q1 &&& (2147483647 : Int32)) % (26 : Int32)), iv o16, .unset, .unset, .unset, .unset]) rfl q)))))) ?_
        show G T896 (mkF m 170 #[iv q0, iv q1, iv q2, iv q3, iv q4, iv q5, iv 0, iv mu1, iv cN, iv m0, iv mu2, iv cM, rv x891, rv x892, iv 1, iv ((q1 &&& (2147483647 : Int32)) % (26 : Int32)), iv o16, .unset, .unset, .unset, .unset] [])
        have J897 : Own.Stp Z consts_1 vm564 h564 vm891 h892 [] := Own.Stp.trans J891 J892 (all0) all0
        have J898 : Own.Stp Z consts_1 vm564 h564 vm891 h896 [] := Own.Stp.trans J897 J896 (all0) (allS (Or.inr (Nat.le_trans J891.1.1 (Nat.le_of_eq g_x892.symm))) all0)
        exact JB vm891 T896 h896 (0 : Int32) x891 x892 y896 own_L0 (1 : Int32) (.val (.int ((q1 &&& (2147483647 : Int32)) % (26 : Int32)))) (.val (.int o16)) (S896.mono (by decide) (by decide)) J898 St896 own_Pn0 (One.val rfl) (One.val rfl)
      ·
        refine hG.st (fun t q => XS.ifNo S891.here hx rfl (hb hby at_130) rfl ((if0 _ _).trans (feq hc130).1) (XS.aload S891.here hx rfl (hb hby at_133) rfl rfl (XS.iload S891.here hx rfl (hb hby at_135) rfl (XS.iload S891.here hx rfl (hb hby at_137) rfl q)))) ?_
        show G T891 (mkF m 139 #[iv q0, iv q1, iv q2, iv q3, iv q4, iv q5, iv 0, iv mu1, iv cN, iv m0, iv mu2, iv cM, rv x891, .unset, .unset, iv ((q1 &&& (2147483647 : Int32)) % (26 : Int32)), iv o16, .unset, .unset, .unset, .unset] [(.int cN), (.int ((q1 &&& (2147483647 : Int32)) % (26 : Int32))), (.ref x891)])
        refine Own.Sit.stC hG S891 hx V891 ga_x891 (own_ix _ (26 : Int32) (by decide)) ((q1 &&& (2147483647 : Int32)) % (26 : Int32)).toNatClampNeg rfl (by rw [List.length_map]; exact (own_ixn (n := (26 : Int32)) (own_ix _ (26 : Int32) (by decide)) (by decide))) rfl rfl (hb hby at_139) (fun T899 h899 S899 J899 V899 => ?_)
        rw [own_nar rcN, ← List.map_set] at V899
        show G T899 (mkF m 140 #[iv q0, iv q1, iv q2, iv q3, iv q4, iv q5, iv 0, iv mu1, iv cN, iv m0, iv mu2, iv cM, rv x891, .unset, .unset, iv ((q1 &&& (2147483647 : Int32)) % (26 : Int32)), iv o16, .unset, .unset, .unset, .unset] [])
        refine Own.Sit.newO hG S899 hx (hW 6 _ rfl) (hW 7 _ rfl) (hW 8 _ rfl) rfl (hb hby at_140) (by decide) (by decide) (fun T900 h900 x900 g_x900 S900 J900 Sf900 E900 D900 => ?_)
        have lt_x900 := E900.lt
        have ga_x900 : Z.heap.size ≤ x900 := Nat.le_trans S899.le (Nat.le_of_eq g_x900.symm)
        have F901 : Fld Z h900 x900 "java/lang/String" "coder" "B" (.int 0) := D900 (Or.inr (hW 32 _ rfl)) (ty := .byte) (by decide)
        have F902 : Fld Z h900 x900 "java/lang/String" "value" "[B" .null := D900 (Or.inr (hW 34 _ rfl)) (ty := (.array .byte)) (by decide)
        refine hG.st (fun t q => XS.dup S900.here hx rfl (hb hby at_143) rfl rfl (XS.aload S900.here hx rfl (hb hby at_144) rfl rfl q)) ?_
        show G T900 (mkF m 146 #[iv q0, iv q1, iv q2, iv q3, iv q4, iv q5, iv 0, iv mu1, iv cN, iv m0, iv mu2, iv cM, rv x891, .unset, .unset, iv ((q1 &&& (2147483647 : Int32)) % (26 : Int32)), iv o16, .unset, .unset, .unset, .unset] [(.ref x891), (.ref x900), (.ref x900)])
        have V903 := J900.arv V899 nin0
        refine Own.Sit.newStr hG S900 hx hWs hCm (hW 7 _ rfl) (hW 9 _ rfl) (hW 10 _ rfl) (cs := (own_L0.set ((q1 &&& (2147483647 : Int32)) % (26 : Int32)).toNatClampNeg cN)) ga_x900 Sf900 E900 F902 F901 V903 (by rw [List.length_set]; decide) (by rw [List.length_set]; decide) (by rw [List.length_set]; decide) (own_setr (by decide) rcN) (nn := 26) (by rw [List.length_set]; decide) rfl (hz _ rfl) (rest := [(.ref x900)]) rfl (W := 1) (Own.hw0 rfl rfl) (hb hby at_146) (by decide) (by decide) (by decide) (by decide) (fun T904 h904 y904 S904 J904 u904 St904 => ?_)
        refine hG.st (fun t q => XS.astore S904.here hx rfl (hb hby at_149) rfl rfl (l' := #[iv q0, iv q1, iv q2, iv q3, iv q4, iv q5, iv 0, iv mu1, iv cN, iv m0, iv mu2, iv cM, rv x891, rv x900, .unset, iv ((q1 &&& (2147483647 : Int32)) % (26 : Int32)), iv o16, .unset, .unset, .unset, .unset]) rfl (XS.iload S904.here hx rfl (hb hby at_151) rfl (XS.ifNo S904.here hx rfl (hb hby at_153) rfl ((if0 _ _).trans (feq (hc130 : ¬ (mu1 = (0 : Int32)))).1) (XS.iload S904.here hx rfl (hb hby at_156) rfl (XS.iload S904.here hx rfl (hb hby at_158) rfl q))))) ?_
        show G T904 (mkF m 160 #[iv q0, iv q1, iv q2, iv q3, iv q4, iv q5, iv 0, iv mu1, iv cN, iv m0, iv mu2, iv cM, rv x891, rv x900, .unset, iv ((q1 &&& (2147483647 : Int32)) % (26 : Int32)), iv o16, .unset, .unset, .unset, .unset] [(.int o16), (.int cN)])
        by_cases hc160 : cN = o16
        ·
          refine hG.st (fun t q => XS.icmpNo S904.here hx rfl (hb hby at_160) rfl (teq hc160).2 (XS.iconst S904.here hx rfl (hb hby at_163) (XS.goto S904.here hx rfl (pc0 := 164) (pc' := 168) rfl (hb hby at_164) (by decide) (by decide) (XS.istore S904.here hx rfl (hb hby at_168) rfl (l' := #[iv q0, iv q1, iv q2, iv q3, iv q4, iv q5, iv 0, iv mu1, iv cN, iv m0, iv mu2, iv cM, rv x891, rv x900, iv 1, iv ((q1 &&& (2147483647 : Int32)) % (26 : Int32)), iv o16, .unset, .unset, .unset, .unset]) rfl q)))) ?_
          show G T904 (mkF m 170 #[iv q0, iv q1, iv q2, iv q3, iv q4, iv q5, iv 0, iv mu1, iv cN, iv m0, iv mu2, iv cM, rv x891, rv x900, iv 1, iv ((q1 &&& (2147483647 : Int32)) % (26 : Int32)), iv o16, .unset, .unset, .unset, .unset] [])
          have J905 : Own.Stp Z consts_1 vm564 h564 vm891 h899 [] := Own.Stp.trans J891 J899 (all0) (allS (Or.inr u891) all0)
          have J906 : Own.Stp Z consts_1 vm564 h564 vm891 h900 [] := Own.Stp.trans J905 J900 (all0) all0
          have J907 : Own.Stp Z consts_1 vm564 h564 vm891 h904 [] := Own.Stp.trans J906 J904 (all0) (allS (Or.inr (Nat.le_trans J905.1.1 (Nat.le_of_eq g_x900.symm))) all0)
          exact JB vm891 T904 h904 (0 : Int32) x891 x900 y904 (own_L0.set ((q1 &&& (2147483647 : Int32)) % (26 : Int32)).toNatClampNeg cN) (1 : Int32) (.val (.int ((q1 &&& (2147483647 : Int32)) % (26 : Int32)))) (.val (.int o16)) (S904.mono (by decide) (by decide)) J907 St904 (own_Pn0s (own_ixn (n := (26 : Int32)) (own_ix _ (26 : Int32) (by decide)) (by decide)) (by rw [← eo16]; exact ⟨fun _ => hc160, fun _ => by decide⟩)) (One.val rfl) (One.val rfl)
        ·
          refine hG.st (fun t q => XS.icmpYes S904.here hx rfl (pc0 := 160) (pc' := 167) rfl (hb hby at_160) rfl (feq hc160).2 (by decide) (by decide) (XS.iconst S904.here hx rfl (hb hby at_167) (XS.istore S904.here hx rfl (hb hby at_168) rfl (l' := #[iv q0, iv q1, iv q2, iv q3, iv q4, iv q5, iv 0, iv mu1, iv cN, iv m0, iv mu2, iv cM, rv x891, rv x900, iv 0, iv ((q1 &&& (2147483647 : Int32)) % (26 : Int32)), iv o16, .unset, .unset, .unset, .unset]) rfl q))) ?_
          show G T904 (mkF m 170 #[iv q0, iv q1, iv q2, iv q3, iv q4, iv q5, iv 0, iv mu1, iv cN, iv m0, iv mu2, iv cM, rv x891, rv x900, iv 0, iv ((q1 &&& (2147483647 : Int32)) % (26 : Int32)), iv o16, .unset, .unset, .unset, .unset] [])
          have J908 : Own.Stp Z consts_1 vm564 h564 vm891 h899 [] := Own.Stp.trans J891 J899 (all0) (allS (Or.inr u891) all0)
          have J909 : Own.Stp Z consts_1 vm564 h564 vm891 h900 [] := Own.Stp.trans J908 J900 (all0) all0
          have J910 : Own.Stp Z consts_1 vm564 h564 vm891 h904 [] := Own.Stp.trans J909 J904 (all0) (allS (Or.inr (Nat.le_trans J908.1.1 (Nat.le_of_eq g_x900.symm))) all0)
          exact JB vm891 T904 h904 (0 : Int32) x891 x900 y904 (own_L0.set ((q1 &&& (2147483647 : Int32)) % (26 : Int32)).toNatClampNeg cN) (0 : Int32) (.val (.int ((q1 &&& (2147483647 : Int32)) % (26 : Int32)))) (.val (.int o16)) (S904.mono (by decide) (by decide)) J910 St904 (own_Pn0s (own_ixn (n := (26 : Int32)) (own_ix _ (26 : Int32) (by decide)) (by decide)) (by rw [← eo16]; exact ⟨fun z => absurd rfl z, fun z => absurd z hc160⟩)) (One.val rfl) (One.val rfl)
    by_cases hk1 : k0 = (1 : Int32)
    ·
      rw [hk1]
      show G T564 (mkF m 59 #[iv q0, iv q1, iv q2, iv q3, iv q4, iv q5, iv 1, iv mu1, iv cN, iv m0, iv mu2, iv cM, .unset, .unset, .unset, .unset, .unset, .unset, .unset, .unset, .unset] [])
      refine hG.st (fun t q => XS.iload S564.here hx rfl (hb hby at_59) rfl q) ?_
      show G T564 (mkF m 61 #[iv q0, iv q1, iv q2, iv q3, iv q4, iv q5, iv 1, iv mu1, iv cN, iv m0, iv mu2, iv cM, .unset, .unset, .unset, .unset, .unset, .unset, .unset, .unset, .unset] [(.int 1)])
      refine Own.Sit.callS hG S564 hx hEL (as := [(.int 1)]) (hW 0 _ rfl) (hW 1 _ rfl) (hW 2 _ rfl) (hW 3 _ rfl) (by decide) (own_ns1 l Z a0 H h564 S564.old) own_pd864215 rfl rfl (hz _ rfl) (rest := []) rfl (W := 0) (Own.hw0 rfl rfl) (hb hby at_61) (by decide) (by decide) (by decide) (by decide) (fun v911 vm911 T911 h911 S911 C911 q911 => ?_)
      obtain ⟨K911, x911, k911, rfl, u911, V911⟩ := q911
      have J911 : Own.Stp Z consts_1 vm564 h564 vm911 h911 [] := ⟨K911, C911⟩
      have ga_x911 : Z.heap.size ≤ x911 := Nat.le_trans S564.le u911
      refine hG.st (fun t q => XS.astore S911.here hx rfl (hb hby at_64) rfl rfl (l' := #[iv q0, iv q1, iv q2, iv q3, iv q4, iv q5, iv 1, iv mu1, iv cN, iv m0, iv mu2, iv cM, rv x911, .unset, .unset, .unset, .unset, .unset, .unset, .unset, .unset]) rfl (XS.aload S911.here hx rfl (hb hby at_66) rfl rfl q)) ?_
      show G T911 (mkF m 68 #[iv q0, iv q1, iv q2, iv q3, iv q4, iv q5, iv 1, iv mu1, iv cN, iv m0, iv mu2, iv cM, rv x911, .unset, .unset, .unset, .unset, .unset, .unset, .unset, .unset] [(.ref x911)])
      refine Own.Sit.arraylength hG S911 hx V911 rfl rfl (hb hby at_68) ?_
      show G T911 (mkF m 69 #[iv q0, iv q1, iv q2, iv q3, iv q4, iv q5, iv 1, iv mu1, iv cN, iv m0, iv mu2, iv cM, rv x911, .unset, .unset, .unset, .unset, .unset, .unset, .unset, .unset] [(.int 36)])
      refine hG.st (fun t q => XS.ifYes S911.here hx rfl (pc0 := 69) (pc' := 111) rfl (hb hby at_69) rfl ((if0 _ _).trans (feq (by decide : ¬ ((36 : Int32) = (0 : Int32)))).2) (by decide) (by decide) (XS.iloadN S911.here hx rfl (hb hby at_111) rfl q)) ?_
      show G T911 (mkF m 112 #[iv q0, iv q1, iv q2, iv q3, iv q4, iv q5, iv 1, iv mu1, iv cN, iv m0, iv mu2, iv cM, rv x911, .unset, .unset, .unset, .unset, .unset, .unset, .unset, .unset] [(.int q1)])
      refine Own.Sit.ldcI hG S911 hx (hW 5 _ rfl) rfl (hb hby at_112) ?_
      show G T911 (mkF m 114 #[iv q0, iv q1, iv q2, iv q3, iv q4, iv q5, iv 1, iv mu1, iv cN, iv m0, iv mu2, iv cM, rv x911, .unset, .unset, .unset, .unset, .unset, .unset, .unset, .unset] [(.int 2147483647), (.int q1)])
      refine hG.st (fun t q => XS.iand S911.here hx rfl (hb hby at_114) rfl (XS.aload S911.here hx rfl (hb hby at_115) rfl rfl q)) ?_
      show G T911 (mkF m 117 #[iv q0, iv q1, iv q2, iv q3, iv q4, iv q5, iv 1, iv mu1, iv cN, iv m0, iv mu2, iv cM, rv x911, .unset, .unset, .unset, .unset, .unset, .unset, .unset, .unset] [(.ref x911), (.int (q1 &&& (2147483647 : Int32)))])
      refine Own.Sit.arraylength hG S911 hx V911 rfl rfl (hb hby at_117) ?_
      show G T911 (mkF m 118 #[iv q0, iv q1, iv q2, iv q3, iv q4, iv q5, iv 1, iv mu1, iv cN, iv m0, iv mu2, iv cM, rv x911, .unset, .unset, .unset, .unset, .unset, .unset, .unset, .unset] [(.int 36), (.int (q1 &&& (2147483647 : Int32)))])
      refine hG.st (fun t q => Own.irem S911.here hx rfl (hb hby at_118) rfl (by decide) (XS.istore S911.here hx rfl (hb hby at_119) rfl (l' := #[iv q0, iv q1, iv q2, iv q3, iv q4, iv q5, iv 1, iv mu1, iv cN, iv m0, iv mu2, iv cM, rv x911, .unset, .unset, iv ((q1 &&& (2147483647 : Int32)) % (36 : Int32)), .unset, .unset, .unset, .unset, .unset]) rfl (XS.aload S911.here hx rfl (hb hby at_121) rfl rfl (XS.iload S911.here hx rfl (hb hby at_123) rfl q)))) ?_
      show G T911 (mkF m 125 #[iv q0, iv q1, iv q2, iv q3, iv q4, iv q5, iv 1, iv mu1, iv cN, iv m0, iv mu2, iv cM, rv x911, .unset, .unset, iv ((q1 &&& (2147483647 : Int32)) % (36 : Int32)), .unset, .unset, .unset, .unset, .unset] [(.int ((q1 &&& (2147483647 : Int32)) % (36 : Int32))), (.ref x911)])
      refine Own.Sit.caload hG S911 hx V911 (own_ix _ (36 : Int32) (by decide)) (own_get (cs := own_L1) (own_ixn (n := (36 : Int32)) (own_ix _ (36 : Int32) (by decide)) (by decide))) rfl rfl (hb hby at_125) ?_
      obtain ⟨o16, eo16⟩ : ∃ z, z = own_L1.getD ((q1 &&& (2147483647 : Int32)) % (36 : Int32)).toNatClampNeg 0 := ⟨_, rfl⟩
      rw [← eo16]
      show G T911 (mkF m 126 #[iv q0, iv q1, iv q2, iv q3, iv q4, iv q5, iv 1, iv mu1, iv cN, iv m0, iv mu2, iv cM, rv x911, .unset, .unset, iv ((q1 &&& (2147483647 : Int32)) % (36 : Int32)), .unset, .unset, .unset, .unset, .unset] [(.int o16)])
      refine hG.st (fun t q => XS.istore S911.here hx rfl (hb hby at_126) rfl (l' := #[iv q0, iv q1, iv q2, iv q3, iv q4, iv q5, iv 1, iv mu1, iv cN, iv m0, iv mu2, iv cM, rv x911, .unset, .unset, iv ((q1 &&& (2147483647 : Int32)) % (36 : Int32)), iv o16, .unset, .unset, .unset, .unset]) rfl (XS.iload S911.here hx rfl (hb hby at_128) rfl q)) ?_
      show G T911 (mkF m 130 #[iv q0, iv q1, iv q2, iv q3, iv q4, iv q5, iv 1, iv mu1, iv cN, iv m0, iv mu2, iv cM, rv x911, .unset, .unset, iv ((q1 &&& (2147483647 : Int32)) % (36 : Int32)), iv o16, .unset, .unset, .unset, .unset] [(.int mu1)])
      by_cases hc130 : mu1 = (0 : Int32)
      ·
        refine hG.st (fun t q => XS.ifYes S911.here hx rfl (pc0 := 130) (pc' := 140) rfl (hb hby at_130) rfl ((if0 _ _).trans (teq hc130).1) (by decide) (by decide) q) ?_
        show G T911 (mkF m 140 #[iv q0, iv q1, iv q2, iv q3, iv q4, iv q5, iv 1, iv mu1, iv cN, iv m0, iv mu2, iv cM, rv x911, .unset, .unset, iv ((q1 &&& (2147483647 : Int32)) % (36 : Int32)), iv o16, .unset, .unset, .unset, .unset] [])
        refine Own.Sit.newO hG S911 hx (hW 6 _ rfl) (hW 7 _ rfl) (hW 8 _ rfl) rfl (hb hby at_140) (by decide) (by decide) (fun T912 h912 x912 g_x912 S912 J912 Sf912 E912 D912 => ?_)
        have lt_x912 := E912.lt
        have ga_x912 : Z.heap.size ≤ x912 := Nat.le_trans S911.le (Nat.le_of_eq g_x912.symm)
        have F913 : Fld Z h912 x912 "java/lang/String" "coder" "B" (.int 0) := D912 (Or.inr (hW 32 _ rfl)) (ty := .byte) (by decide)
        have F914 : Fld Z h912 x912 "java/lang/String" "value" "[B" .null := D912 (Or.inr (hW 34 _ rfl)) (ty := (.array .byte)) (by decide)
        refine hG.st (fun t q => XS.dup S912.here hx rfl (hb hby at_143) rfl rfl (XS.aload S912.here hx rfl (hb hby at_144) rfl rfl q)) ?_
        show G T912 (mkF m 146 #[iv q0, iv q1, iv q2, iv q3, iv q4, iv q5, iv 1, iv mu1, iv cN, iv m0, iv mu2, iv cM, rv x911, .unset, .unset, iv ((q1 &&& (2147483647 : Int32)) % (36 : Int32)), iv o16, .unset, .unset, .unset, .unset] [(.ref x911), (.ref x912), (.ref x912)])
        have V915 := J912.arv V911 nin0
        refine Own.Sit.newStr hG S912 hx hWs hCm (hW 7 _ rfl) (hW 9 _ rfl) (hW 10 _ rfl) (cs := own_L1) ga_x912 Sf912 E912 F914 F913 V915 (by decide) (by decide) (by decide) (by decide) (nn := 36) (by decide) rfl (hz _ rfl) (rest := [(.ref x912)]) rfl (W := 1) (Own.hw0 rfl rfl) (hb hby at_146) (by decide) (by decide) (by decide) (by decide) (fun T916 h916 y916 S916 J916 u916 St916 => ?_)
        refine hG.st (fun t q => XS.astore S916.here hx rfl (hb hby at_149) rfl rfl (l' := #[iv q0, iv q1, iv q2, iv q3, iv q4, iv q5, iv 1, iv mu1, iv cN, iv m0, iv mu2, iv cM, rv x911, rv x912, .unset, iv ((q1 &&& (2147483647 : Int32)) % (36 : Int32)), iv o16, .unset, .unset, .unset, .unset]) rfl (XS.iload S916.here hx rfl (hb hby at_151) rfl (XS.ifYes S916.here hx rfl (pc0 := 153) (pc' := 163) rfl (hb hby at_153) rfl ((if0 _ _).trans (teq (hc130 : mu1 = (0 : Int32))).1) (by decide) (by decide) (XS.iconst S916.here hx rfl (hb hby at_163) (XS.goto S916.here hx rfl (pc0 := 164) (pc' := 168) rfl (hb hby at_164) (by decide) (by decide) (XS.istore S916.here hx rfl (hb hby at_168) rfl (l' := #[iv q0, iv q1, iv q2, iv q3, iv q4, iv q5, iv 1, iv mu1, iv cN, iv m0, iv mu2, iv cM, rv x911, rv x912, iv 1, iv ((q1 &&& (2147483647 : Int32)) % (36 : Int32)), iv o16, .unset, .unset, .unset, .unset]) rfl q)))))) ?_
        show G T916 (mkF m 170 #[iv q0, iv q1, iv q2, iv q3, iv q4, iv q5, iv 1, iv mu1, iv cN, iv m0, iv mu2, iv cM, rv x911, rv x912, iv 1, iv ((q1 &&& (2147483647 : Int32)) % (36 : Int32)), iv o16, .unset, .unset, .unset, .unset] [])
        have J917 : Own.Stp Z consts_1 vm564 h564 vm911 h912 [] := Own.Stp.trans J911 J912 (all0) all0
        have J918 : Own.Stp Z consts_1 vm564 h564 vm911 h916 [] := Own.Stp.trans J917 J916 (all0) (allS (Or.inr (Nat.le_trans J911.1.1 (Nat.le_of_eq g_x912.symm))) all0)
        exact JB vm911 T916 h916 (1 : Int32) x911 x912 y916 own_L1 (1 : Int32) (.val (.int ((q1 &&& (2147483647 : Int32)) % (36 : Int32)))) (.val (.int o16)) (S916.mono (by decide) (by decide)) J918 St916 own_Pn1 (One.val rfl) (One.val rfl)
      ·
        refine hG.st (fun t q => XS.ifNo S911.here hx rfl (hb hby at_130) rfl ((if0 _ _).trans (feq hc130).1) (XS.aload S911.here hx rfl (hb hby at_133) rfl rfl (XS.iload S911.here hx rfl (hb hby at_135) rfl (XS.iload S911.here hx rfl (hb hby at_137) rfl q)))) ?_
        show G T911 (mkF m 139 #[iv q0, iv q1, iv q2, iv q3, iv q4, iv q5, iv 1, iv mu1, iv cN, iv m0, iv mu2, iv cM, rv x911, .unset, .unset, iv ((q1 &&& (2147483647 : Int32)) % (36 : Int32)), iv o16, .unset, .unset, .unset, .unset] [(.int cN), (.int ((q1 &&& (2147483647 : Int32)) % (36 : Int32))), (.ref x911)])
        refine Own.Sit.stC hG S911 hx V911 ga_x911 (own_ix _ (36 : Int32) (by decide)) ((q1 &&& (2147483647 : Int32)) % (36 : Int32)).toNatClampNeg rfl (by rw [List.length_map]; exact (own_ixn (n := (36 : Int32)) (own_ix _ (36 : Int32) (by decide)) (by decide))) rfl rfl (hb hby at_139) (fun T919 h919 S919 J919 V919 => ?_)
        rw [own_nar rcN, ← List.map_set] at V919
        show G T919 (mkF m 140 #[iv q0, iv q1, iv q2, iv q3, iv q4, iv q5, iv 1, iv mu1, iv cN, iv m0, iv mu2, iv cM, rv x911, .unset, .unset, iv ((q1 &&& (2147483647 : Int32)) % (36 : Int32)), iv o16, .unset, .unset, .unset, .unset] [])
        refine Own.Sit.newO hG S919 hx (hW 6 _ rfl) (hW 7 _ rfl) (hW 8 _ rfl) rfl (hb hby at_140) (by decide) (by decide) (fun T920 h920 x920 g_x920 S920 J920 Sf920 E920 D920 => ?_)
        have lt_x920 := E920.lt
        have ga_x920 : Z.heap.size ≤ x920 := Nat.le_trans S919.le (Nat.le_of_eq g_x920.symm)
        have F921 : Fld Z h920 x920 "java/lang/String" "coder" "B" (.int 0) := D920 (Or.inr (hW 32 _ rfl)) (ty := .byte) (by decide)
        have F922 : Fld Z h920 x920 "java/lang/String" "value" "[B" .null := D920 (Or.inr (hW 34 _ rfl)) (ty := (.array .byte)) (by decide)
        refine hG.st (fun t q => XS.dup S920.here hx rfl (hb hby at_143) rfl rfl (XS.aload S920.here hx rfl (hb hby at_144) rfl rfl q)) ?_
        show G T920 (mkF m 146 #[iv q0, iv q1, iv q2, iv q3, iv q4, iv q5, iv 1, iv mu1, iv cN, iv m0, iv mu2, iv cM, rv x911, .unset, .unset, iv ((q1 &&& (2147483647 : Int32)) % (36 : Int32)), iv o16, .unset, .unset, .unset, .unset] [(.ref x911), (.ref x920), (.ref x920)])
        have V923 := J920.arv V919 nin0
        refine Own.Sit.newStr hG S920 hx hWs hCm (hW 7 _ rfl) (hW 9 _ rfl) (hW 10 _ rfl) (cs := (own_L1.set ((q1 &&& (2147483647 : Int32)) % (36 : Int32)).toNatClampNeg cN)) ga_x920 Sf920 E920 F922 F921 V923 (by rw [List.length_set]; decide) (by rw [List.length_set]; decide) (by rw [List.length_set]; decide) (own_setr (by decide) rcN) (nn := 36) (by rw [List.length_set]; decide) rfl (hz _ rfl) (rest := [(.ref x920)]) rfl (W := 1) (Own.hw0 rfl rfl) (hb hby at_146) (by decide) (by decide) (by decide) (by decide) (fun T924 h924 y924 S924 J924 u924 St924 => ?_)
        refine hG.st (fun t q => XS.astore S924.here hx rfl (hb hby at_149) rfl rfl (l' := #[iv q0, iv q1, iv q2, iv q3, iv q4, iv q5, iv 1, iv mu1, iv cN, iv m0, iv mu2, iv cM, rv x911, rv x920, .unset, iv ((q1 &&& (2147483647 : Int32)) % (36 : Int32)), iv o16, .unset, .unset, .unset, .unset]) rfl (XS.iload S924.here hx rfl (hb hby at_151) rfl (XS.ifNo S924.here hx rfl (hb hby at_153) rfl ((if0 _ _).trans (feq (hc130 : ¬ (mu1 = (0 : Int32)))).1) (XS.iload S924.here hx rfl (hb hby at_156) rfl (XS.iload S924.here hx rfl (hb hby at_158) rfl q))))) ?_
        show G T924 (mkF m 160 #[iv q0, iv q1, iv q2, iv q3, iv q4, iv q5, iv 1, iv mu1, iv cN, iv m0, iv mu2, iv cM, rv x911, rv x920, .unset, iv ((q1 &&& (2147483647 : Int32)) % (36 : Int32)), iv o16, .unset, .unset, .unset, .unset] [(.int o16), (.int cN)])
        by_cases hc160 : cN = o16
        ·
          refine hG.st (fun t q => XS.icmpNo S924.here hx rfl (hb hby at_160) rfl (teq hc160).2 (XS.iconst S924.here hx rfl (hb hby at_163) (XS.goto S924.here hx rfl (pc0 := 164) (pc' := 168) rfl (hb hby at_164) (by decide) (by decide) (XS.istore S924.here hx rfl (hb hby at_168) rfl (l' := #[iv q0, iv q1, iv q2, iv q3, iv q4, iv q5, iv 1, iv mu1, iv cN, iv m0, iv mu2, iv cM, rv x911, rv x920, iv 1, iv ((q1 &&& (2147483647 : Int32)) % (36 : Int32)), iv o16, .unset, .unset, .unset, .unset]) rfl q)))) ?_
          show G T924 (mkF m 170 #[iv q0, iv q1, iv q2, iv q3, iv q4, iv q5, iv 1, iv mu1, iv cN, iv m0, iv mu2, iv cM, rv x911, rv x920, iv 1, iv ((q1 &&& (2147483647 : Int32)) % (36 : Int32)), iv o16, .unset, .unset, .unset, .unset] [])
          have J925 : Own.Stp Z consts_1 vm564 h564 vm911 h919 [] := Own.Stp.trans J911 J919 (all0) (allS (Or.inr u911) all0)
          have J926 : Own.Stp Z consts_1 vm564 h564 vm911 h920 [] := Own.Stp.trans J925 J920 (all0) all0
          have J927 : Own.Stp Z consts_1 vm564 h564 vm911 h924 [] := Own.Stp.trans J926 J924 (all0) (allS (Or.inr (Nat.le_trans J925.1.1 (Nat.le_of_eq g_x920.symm))) all0)
          exact JB vm911 T924 h924 (1 : Int32) x911 x920 y924 (own_L1.set ((q1 &&& (2147483647 : Int32)) % (36 : Int32)).toNatClampNeg cN) (1 : Int32) (.val (.int ((q1 &&& (2147483647 : Int32)) % (36 : Int32)))) (.val (.int o16)) (S924.mono (by decide) (by decide)) J927 St924 (own_Pn1s (own_ixn (n := (36 : Int32)) (own_ix _ (36 : Int32) (by decide)) (by decide)) (by rw [← eo16]; exact ⟨fun _ => hc160, fun _ => by decide⟩)) (One.val rfl) (One.val rfl)
        ·
          refine hG.st (fun t q => XS.icmpYes S924.here hx rfl (pc0 := 160) (pc' := 167) rfl (hb hby at_160) rfl (feq hc160).2 (by decide) (by decide) (XS.iconst S924.here hx rfl (hb hby at_167) (XS.istore S924.here hx rfl (hb hby at_168) rfl (l' := #[iv q0, iv q1, iv q2, iv q3, iv q4, iv q5, iv 1, iv mu1, iv cN, iv m0, iv mu2, iv cM, rv x911, rv x920, iv 0, iv ((q1 &&& (2147483647 : Int32)) % (36 : Int32)), iv o16, .unset, .unset, .unset, .unset]) rfl q))) ?_
          show G T924 (mkF m 170 #[iv q0, iv q1, iv q2, iv q3, iv q4, iv q5, iv 1, iv mu1, iv cN, iv m0, iv mu2, iv cM, rv x911, rv x920, iv 0, iv ((q1 &&& (2147483647 : Int32)) % (36 : Int32)), iv o16, .unset, .unset, .unset, .unset] [])
          have J928 : Own.Stp Z consts_1 vm564 h564 vm911 h919 [] := Own.Stp.trans J911 J919 (all0) (allS (Or.inr u911) all0)
          have J929 : Own.Stp Z consts_1 vm564 h564 vm911 h920 [] := Own.Stp.trans J928 J920 (all0) all0
          have J930 : Own.Stp Z consts_1 vm564 h564 vm911 h924 [] := Own.Stp.trans J929 J924 (all0) (allS (Or.inr (Nat.le_trans J928.1.1 (Nat.le_of_eq g_x920.symm))) all0)
          exact JB vm911 T924 h924 (1 : Int32) x911 x920 y924 (own_L1.set ((q1 &&& (2147483647 : Int32)) % (36 : Int32)).toNatClampNeg cN) (0 : Int32) (.val (.int ((q1 &&& (2147483647 : Int32)) % (36 : Int32)))) (.val (.int o16)) (S924.mono (by decide) (by decide)) J930 St924 (own_Pn1s (own_ixn (n := (36 : Int32)) (own_ix _ (36 : Int32) (by decide)) (by decide)) (by rw [← eo16]; exact ⟨fun z => absurd rfl z, fun z => absurd z hc160⟩)) (One.val rfl) (One.val rfl)
    by_cases hk2 : k0 = (2 : Int32)
    ·
      rw [hk2]
      show G T564 (mkF m 59 #[iv q0, iv q1, iv q2, iv q3, iv q4, iv q5, iv 2, iv mu1, iv cN, iv m0, iv mu2, iv cM, .unset, .unset, .unset, .unset, .unset, .unset, .unset, .unset, .unset] [])
      refine hG.st (fun t q => XS.iload S564.here hx rfl (hb hby at_59) rfl q) ?_
      show G T564 (mkF m 61 #[iv q0, iv q1, iv q2, iv q3, iv q4, iv q5, iv 2, iv mu1, iv cN, iv m0, iv mu2, iv cM, .unset, .unset, .unset, .unset, .unset, .unset, .unset, .unset, .unset] [(.int 2)])
      refine Own.Sit.callS hG S564 hx hEL (as := [(.int 2)]) (hW 0 _ rfl) (hW 1 _ rfl) (hW 2 _ rfl) (hW 3 _ rfl) (by decide) (own_ns2 l Z a0 H h564 S564.old) own_pd864215 rfl rfl (hz _ rfl) (rest := []) rfl (W := 0) (Own.hw0 rfl rfl) (hb hby at_61) (by decide) (by decide) (by decide) (by decide) (fun v931 vm931 T931 h931 S931 C931 q931 => ?_)
      obtain ⟨K931, x931, k931, rfl, u931, V931⟩ := q931
      have J931 : Own.Stp Z consts_1 vm564 h564 vm931 h931 [] := ⟨K931, C931⟩
      have ga_x931 : Z.heap.size ≤ x931 := Nat.le_trans S564.le u931
      refine hG.st (fun t q => XS.astore S931.here hx rfl (hb hby at_64) rfl rfl (l' := #[iv q0, iv q1, iv q2, iv q3, iv q4, iv q5, iv 2, iv mu1, iv cN, iv m0, iv mu2, iv cM, rv x931, .unset, .unset, .unset, .unset, .unset, .unset, .unset, .unset]) rfl (XS.aload S931.here hx rfl (hb hby at_66) rfl rfl q)) ?_
      show G T931 (mkF m 68 #[iv q0, iv q1, iv q2, iv q3, iv q4, iv q5, iv 2, iv mu1, iv cN, iv m0, iv mu2, iv cM, rv x931, .unset, .unset, .unset, .unset, .unset, .unset, .unset, .unset] [(.ref x931)])
      refine Own.Sit.arraylength hG S931 hx V931 rfl rfl (hb hby at_68) ?_
      show G T931 (mkF m 69 #[iv q0, iv q1, iv q2, iv q3, iv q4, iv q5, iv 2, iv mu1, iv cN, iv m0, iv mu2, iv cM, rv x931, .unset, .unset, .unset, .unset, .unset, .unset, .unset, .unset] [(.int 28)])
      refine hG.st (fun t q => XS.ifYes S931.here hx rfl (pc0 := 69) (pc' := 111) rfl (hb hby at_69) rfl ((if0 _ _).trans (feq (by decide : ¬ ((28 : Int32) = (0 : Int32)))).2) (by decide) (by decide) (XS.iloadN S931.here hx rfl (hb hby at_111) rfl q)) ?_
      show G T931 (mkF m 112 #[iv q0, iv q1, iv q2, iv q3, iv q4, iv q5, iv 2, iv mu1, iv cN, iv m0, iv mu2, iv cM, rv x931, .unset, .unset, .unset, .unset, .unset, .unset, .unset, .unset] [(.int q1)])
      refine Own.Sit.ldcI hG S931 hx (hW 5 _ rfl) rfl (hb hby at_112) ?_
      show G T931 (mkF m 114 #[iv q0, iv q1, iv q2, iv q3, iv q4, iv q5, iv 2, iv mu1, iv cN, iv m0, iv mu2, iv cM, rv x931, .unset, .unset, .unset, .unset, .unset, .unset, .unset, .unset] [(.int 2147483647), (.int q1)])
      refine hG.st (fun t q => XS.iand S931.here hx rfl (hb hby at_114) rfl (XS.aload S931.here hx rfl (hb hby at_115) rfl rfl q)) ?_
      show G T931 (mkF m 117 #[iv q0, iv q1, iv q2, iv q3, iv q4, iv q5, iv 2, iv mu1, iv cN, iv m0, iv mu2, iv cM, rv x931, .unset, .unset, .unset, .unset, .unset, .unset, .unset, .unset] [(.ref x931), (.int (q1 &&& (2147483647 : Int32)))])
      refine Own.Sit.arraylength hG S931 hx V931 rfl rfl (hb hby at_117) ?_
      show G T931 (mkF m 118 #[iv q0, iv q1, iv q2, iv q3, iv q4, iv q5, iv 2, iv mu1, iv cN, iv m0, iv mu2, iv cM, rv x931, .unset, .unset, .unset, .unset, .unset, .unset, .unset, .unset] [(.int 28), (.int (q1 &&& (2147483647 : Int32)))])
      refine hG.st (fun t q => Own.irem S931.here hx rfl (hb hby at_118) rfl (by decide) (XS.istore S931.here hx rfl (hb hby at_119) rfl (l' := #[iv q0, iv q1, iv q2, iv q3, iv q4, iv q5, iv 2, iv mu1, iv cN, iv m0, iv mu2, iv cM, rv x931, .unset, .unset, iv ((q1 &&& (2147483647 : Int32)) % (28 : Int32)), .unset, .unset, .unset, .unset, .unset]) rfl (XS.aload S931.here hx rfl (hb hby at_121) rfl rfl (XS.iload S931.here hx rfl (hb hby at_123) rfl q)))) ?_
      show G T931 (mkF m 125 #[iv q0, iv q1, iv q2, iv q3, iv q4, iv q5, iv 2, iv mu1, iv cN, iv m0, iv mu2, iv cM, rv x931, .unset, .unset, iv ((q1 &&& (2147483647 : Int32)) % (28 : Int32)), .unset, .unset, .unset, .unset, .unset] [(.int ((q1 &&& (2147483647 : Int32)) % (28 : Int32))), (.ref x931)])
      refine Own.Sit.caload hG S931 hx V931 (own_ix _ (28 : Int32) (by decide)) (own_get (cs := own_L2) (own_ixn (n := (28 : Int32)) (own_ix _ (28 : Int32) (by decide)) (by decide))) rfl rfl (hb hby at_125) ?_
      obtain ⟨o16, eo16⟩ : ∃ z, z = own_L2.getD ((q1 &&& (2147483647 : Int32)) % (28 : Int32)).toNatClampNeg 0 := ⟨_, rfl⟩
      rw [← eo16]
      show G T931 (mkF m 126 #[iv q0, iv q1, iv q2, iv q3, iv q4, iv q5, iv 2, iv mu1, iv cN, iv m0, iv mu2, iv cM, rv x931, .unset, .unset, iv ((q1 &&& (2147483647 : Int32)) % (28 : Int32)), .unset, .unset, .unset, .unset, .unset] [(.int o16)])
      refine hG.st (fun t q => XS.istore S931.here hx rfl (hb hby at_126) rfl (l' := #[iv q0, iv q1, iv q2, iv q3, iv q4, iv q5, iv 2, iv mu1, iv cN, iv m0, iv mu2, iv cM, rv x931, .unset, .unset, iv ((q1 &&& (2147483647 : Int32)) % (28 : Int32)), iv o16, .unset, .unset, .unset, .unset]) rfl (XS.iload S931.here hx rfl (hb hby at_128) rfl q)) ?_
      show G T931 (mkF m 130 #[iv q0, iv q1, iv q2, iv q3, iv q4, iv q5, iv 2, iv mu1, iv cN, iv m0, iv mu2, iv cM, rv x931, .unset, .unset, iv ((q1 &&& (2147483647 : Int32)) % (28 : Int32)), iv o16, .unset, .unset, .unset, .unset] [(.int mu1)])
      by_cases hc130 : mu1 = (0 : Int32)
      ·
        refine hG.st (fun t q => XS.ifYes S931.here hx rfl (pc0 := 130) (pc' := 140) rfl (hb hby at_130) rfl ((if0 _ _).trans (teq hc130).1) (by decide) (by decide) q) ?_
        show G T931 (mkF m 140 #[iv q0, iv q1, iv q2, iv q3, iv q4, iv q5, iv 2, iv mu1, iv cN, iv m0, iv mu2, iv cM, rv x931, .unset, .unset, iv ((q1 &&& (2147483647 : Int32)) % (28 : Int32)), iv o16, .unset, .unset, .unset, .unset] [])
        refine Own.Sit.newO hG S931 hx (hW 6 _ rfl) (hW 7 _ rfl) (hW 8 _ rfl) rfl (hb hby at_140) (by decide) (by decide) (fun T932 h932 x932 g_x932 S932 J932 Sf932 E932 D932 => ?_)
        have lt_x932 := E932.lt
        have ga_x932 : Z.heap.size ≤ x932 := Nat.le_trans S931.le (Nat.le_of_eq g_x932.symm)
        have F933 : Fld Z h932 x932 "java/lang/String" "coder" "B" (.int 0) := D932 (Or.inr (hW 32 _ rfl)) (ty := .byte) (by decide)
        have F934 : Fld Z h932 x932 "java/lang/String" "value" "[B" .null := D932 (Or.inr (hW 34 _ rfl)) (ty := (.array .byte)) (by decide)
        refine hG.st (fun t q => XS.dup S932.here hx rfl (hb hby at_143) rfl rfl (XS.aload S932.here hx rfl (hb hby at_144) rfl rfl q)) ?_
        show G T932 (mkF m 146 #[iv q0, iv q1, iv q2, iv q3, iv q4, iv q5, iv 2, iv mu1, iv cN, iv m0, iv mu2, iv cM, rv x931, .unset, .unset, iv ((q1 &&& (2147483647 : Int32)) % (28 : Int32)), iv o16, .unset, .unset, .unset, .unset] [(.ref x931), (.ref x932), (.ref x932)])
        have V935 := J932.arv V931 nin0
        refine Own.Sit.newStr hG S932 hx hWs hCm (hW 7 _ rfl) (hW 9 _ rfl) (hW 10 _ rfl) (cs := own_L2) ga_x932 Sf932 E932 F934 F933 V935 (by decide) (by decide) (by decide) (by decide) (nn := 28) (by decide) rfl (hz _ rfl) (rest := [(.ref x932)]) rfl (W := 1) (Own.hw0 rfl rfl) (hb hby at_146) (by decide) (by decide) (by decide) (by decide) (fun T936 h936 y936 S936 J936 u936 St936 => ?_)
        refine hG.st (fun t q => XS.astore S936.here hx rfl (hb hby at_149) rfl rfl (l' := #[iv q0, iv q1, iv q2, iv q3, iv q4, iv q5, iv 2, iv mu1, iv cN, iv m0, iv mu2, iv cM, rv x931, rv x932, .unset, iv ((q1 &&& (2147483647 : Int32)) % (28 : Int32)), iv o16, .unset, .unset, .unset, .unset]) rfl (XS.iload S936.here hx rfl (hb hby at_151) rfl (XS.ifYes S936.here hx rfl (pc0 := 153) (pc' := 163) rfl (hb hby at_153) rfl ((if0 _ _).trans (teq (hc130 : mu1 = (0 : Int32))).1) (by decide) (by decide) (XS.iconst S936.here hx rfl (hb hby at_163) (XS.goto S936.here hx rfl (pc0 := 164) (pc' := 168) rfl (hb hby at_164) (by decide) (by decide) (XS.istore S936.here hx rfl (hb hby at_168) rfl (l' := #[iv q0, iv q1, iv q2, iv q3, iv q4, iv q5, iv 2, iv mu1, iv cN, iv m0, iv mu2, iv cM, rv x931, rv x932, iv 1, iv ((q1 &&& (2147483647 : Int32)) % (28 : Int32)), iv o16, .unset, .unset, .unset, .unset]) rfl q)))))) ?_
        show G T936 (mkF m 170 #[iv q0, iv q1, iv q2, iv q3, iv q4, iv q5, iv 2, iv mu1, iv cN, iv m0, iv mu2, iv cM, rv x931, rv x932, iv 1, iv ((q1 &&& (2147483647 : Int32)) % (28 : Int32)), iv o16, .unset, .unset, .unset, .unset] [])
        have J937 : Own.Stp Z consts_1 vm564 h564 vm931 h932 [] := Own.Stp.trans J931 J932 (all0) all0
        have J938 : Own.Stp Z consts_1 vm564 h564 vm931 h936 [] := Own.Stp.trans J937 J936 (all0) (allS (Or.inr (Nat.le_trans J931.1.1 (Nat.le_of_eq g_x932.symm))) all0)
        exact JB vm931 T936 h936 (2 : Int32) x931 x932 y936 own_L2 (1 : Int32) (.val (.int ((q1 &&& (2147483647 : Int32)) % (28 : Int32)))) (.val (.int o16)) (S936.mono (by decide) (by decide)) J938 St936 (own_PnL (n := 28) rfl (by decide) (by decide) (by decide) (by decide)) (One.val rfl) (One.val rfl)
      ·
        refine hG.st (fun t q => XS.ifNo S931.here hx rfl (hb hby at_130) rfl ((if0 _ _).trans (feq hc130).1) (XS.aload S931.here hx rfl (hb hby at_133) rfl rfl (XS.iload S931.here hx rfl (hb hby at_135) rfl (XS.iload S931.here hx rfl (hb hby at_137) rfl q)))) ?_
        show G T931 (mkF m 139 #[iv q0, iv q1, iv q2, iv q3, iv q4, iv q5, iv 2, iv mu1, iv cN, iv m0, iv mu2, iv cM, rv x931, .unset, .unset, iv ((q1 &&& (2147483647 : Int32)) % (28 : Int32)), iv o16, .unset, .unset, .unset, .unset] [(.int cN), (.int ((q1 &&& (2147483647 : Int32)) % (28 : Int32))), (.ref x931)])
        refine Own.Sit.stC hG S931 hx V931 ga_x931 (own_ix _ (28 : Int32) (by decide)) ((q1 &&& (2147483647 : Int32)) % (28 : Int32)).toNatClampNeg rfl (by rw [List.length_map]; exact (own_ixn (n := (28 : Int32)) (own_ix _ (28 : Int32) (by decide)) (by decide))) rfl rfl (hb hby at_139) (fun T939 h939 S939 J939 V939 => ?_)
        rw [own_nar rcN, ← List.map_set] at V939
        show G T939 (mkF m 140 #[iv q0, iv q1, iv q2, iv q3, iv q4, iv q5, iv 2, iv mu1, iv cN, iv m0, iv mu2, iv cM, rv x931, .unset, .unset, iv ((q1 &&& (2147483647 : Int32)) % (28 : Int32)), iv o16, .unset, .unset, .unset, .unset] [])
        refine Own.Sit.newO hG S939 hx (hW 6 _ rfl) (hW 7 _ rfl) (hW 8 _ rfl) rfl (hb hby at_140) (by decide) (by decide) (fun T940 h940 x940 g_x940 S940 J940 Sf940 E940 D940 => ?_)
        have lt_x940 := E940.lt
        have ga_x940 : Z.heap.size ≤ x940 := Nat.le_trans S939.le (Nat.le_of_eq g_x940.symm)
        have F941 : Fld Z h940 x940 "java/lang/String" "coder" "B" (.int 0) := D940 (Or.inr (hW 32 _ rfl)) (ty := .byte) (by decide)
        have F942 : Fld Z h940 x940 "java/lang/String" "value" "[B" .null := D940 (Or.inr (hW 34 _ rfl)) (ty := (.array .byte)) (by decide)
        refine hG.st (fun t q => XS.dup S940.here hx rfl (hb hby at_143) rfl rfl (XS.aload S940.here hx rfl (hb hby at_144) rfl rfl q)) ?_
        show G T940 (mkF m 146 #[iv q0, iv q1, iv q2, iv q3, iv q4, iv q5, iv 2, iv mu1, iv cN, iv m0, iv mu2, iv cM, rv x931, .unset, .unset, iv ((q1 &&& (2147483647 : Int32)) % (28 : Int32)), iv o16, .unset, .unset, .unset, .unset] [(.ref x931), (.ref x940), (.ref x940)])
        have V943 := J940.arv V939 nin0
        refine Own.Sit.newStr hG S940 hx hWs hCm (hW 7 _ rfl) (hW 9 _ rfl) (hW 10 _ rfl) (cs := (own_L2.set ((q1 &&& (2147483647 : Int32)) % (28 : Int32)).toNatClampNeg cN)) ga_x940 Sf940 E940 F942 F941 V943 (by rw [List.length_set]; decide) (by rw [List.length_set]; decide) (by rw [List.length_set]; decide) (own_setr (by decide) rcN) (nn := 28) (by rw [List.length_set]; decide) rfl (hz _ rfl) (rest := [(.ref x940)]) rfl (W := 1) (Own.hw0 rfl rfl) (hb hby at_146) (by decide) (by decide) (by decide) (by decide) (fun T944 h944 y944 S944 J944 u944 St944 => ?_)
        refine hG.st (fun t q => XS.astore S944.here hx rfl (hb hby at_149) rfl rfl (l' := #[iv q0, iv q1, iv q2, iv q3, iv q4, iv q5, iv 2, iv mu1, iv cN, iv m0, iv mu2, iv cM, rv x931, rv x940, .unset, iv ((q1 &&& (2147483647 : Int32)) % (28 : Int32)), iv o16, .unset, .unset, .unset, .unset]) rfl (XS.iload S944.here hx rfl (hb hby at_151) rfl (XS.ifNo S944.here hx rfl (hb hby at_153) rfl ((if0 _ _).trans (feq (hc130 : ¬ (mu1 = (0 : Int32)))).1) (XS.iload S944.here hx rfl (hb hby at_156) rfl (XS.iload S944.here hx rfl (hb hby at_158) rfl q))))) ?_
        show G T944 (mkF m 160 #[iv q0, iv q1, iv q2, iv q3, iv q4, iv q5, iv 2, iv mu1, iv cN, iv m0, iv mu2, iv cM, rv x931, rv x940, .unset, iv ((q1 &&& (2147483647 : Int32)) % (28 : Int32)), iv o16, .unset, .unset, .unset, .unset] [(.int o16), (.int cN)])
        by_cases hc160 : cN = o16
        ·
          refine hG.st (fun t q => XS.icmpNo S944.here hx rfl (hb hby at_160) rfl (teq hc160).2 (XS.iconst S944.here hx rfl (hb hby at_163) (XS.goto S944.here hx rfl (pc0 := 164) (pc' := 168) rfl (hb hby at_164) (by decide) (by decide) (XS.istore S944.here hx rfl (hb hby at_168) rfl (l' := #[iv q0, iv q1, iv q2, iv q3, iv q4, iv q5, iv 2, iv mu1, iv cN, iv m0, iv mu2, iv cM, rv x931, rv x940, iv 1, iv ((q1 &&& (2147483647 : Int32)) % (28 : Int32)), iv o16, .unset, .unset, .unset, .unset]) rfl q)))) ?_
          show G T944 (mkF m 170 #[iv q0, iv q1, iv q2, iv q3, iv q4, iv q5, iv 2, iv mu1, iv cN, iv m0, iv mu2, iv cM, rv x931, rv x940, iv 1, iv ((q1 &&& (2147483647 : Int32)) % (28 : Int32)), iv o16, .unset, .unset, .unset, .unset] [])
          have J945 : Own.Stp Z consts_1 vm564 h564 vm931 h939 [] := Own.Stp.trans J931 J939 (all0) (allS (Or.inr u931) all0)
          have J946 : Own.Stp Z consts_1 vm564 h564 vm931 h940 [] := Own.Stp.trans J945 J940 (all0) all0
          have J947 : Own.Stp Z consts_1 vm564 h564 vm931 h944 [] := Own.Stp.trans J946 J944 (all0) (allS (Or.inr (Nat.le_trans J945.1.1 (Nat.le_of_eq g_x940.symm))) all0)
          exact JB vm931 T944 h944 (2 : Int32) x931 x940 y944 (own_L2.set ((q1 &&& (2147483647 : Int32)) % (28 : Int32)).toNatClampNeg cN) (1 : Int32) (.val (.int ((q1 &&& (2147483647 : Int32)) % (28 : Int32)))) (.val (.int o16)) (S944.mono (by decide) (by decide)) J947 St944 (own_PnL (n := 28) (by rw [List.length_set]; rfl) (by decide) (by decide) (by decide) (by decide)) (One.val rfl) (One.val rfl)
        ·
          refine hG.st (fun t q => XS.icmpYes S944.here hx rfl (pc0 := 160) (pc' := 167) rfl (hb hby at_160) rfl (feq hc160).2 (by decide) (by decide) (XS.iconst S944.here hx rfl (hb hby at_167) (XS.istore S944.here hx rfl (hb hby at_168) rfl (l' := #[iv q0, iv q1, iv q2, iv q3, iv q4, iv q5, iv 2, iv mu1, iv cN, iv m0, iv mu2, iv cM, rv x931, rv x940, iv 0, iv ((q1 &&& (2147483647 : Int32)) % (28 : Int32)), iv o16, .unset, .unset, .unset, .unset]) rfl q))) ?_
          show G T944 (mkF m 170 #[iv q0, iv q1, iv q2, iv q3, iv q4, iv q5, iv 2, iv mu1, iv cN, iv m0, iv mu2, iv cM, rv x931, rv x940, iv 0, iv ((q1 &&& (2147483647 : Int32)) % (28 : Int32)), iv o16, .unset, .unset, .unset, .unset] [])
          have J948 : Own.Stp Z consts_1 vm564 h564 vm931 h939 [] := Own.Stp.trans J931 J939 (all0) (allS (Or.inr u931) all0)
          have J949 : Own.Stp Z consts_1 vm564 h564 vm931 h940 [] := Own.Stp.trans J948 J940 (all0) all0
          have J950 : Own.Stp Z consts_1 vm564 h564 vm931 h944 [] := Own.Stp.trans J949 J944 (all0) (allS (Or.inr (Nat.le_trans J948.1.1 (Nat.le_of_eq g_x940.symm))) all0)
          exact JB vm931 T944 h944 (2 : Int32) x931 x940 y944 (own_L2.set ((q1 &&& (2147483647 : Int32)) % (28 : Int32)).toNatClampNeg cN) (0 : Int32) (.val (.int ((q1 &&& (2147483647 : Int32)) % (28 : Int32)))) (.val (.int o16)) (S944.mono (by decide) (by decide)) J950 St944 (own_PnL (n := 28) (by rw [List.length_set]; rfl) (by decide) (by decide) (by decide) (by decide)) (One.val rfl) (One.val rfl)
    by_cases hk3 : k0 = (3 : Int32)
    ·
      rw [hk3]
      show G T564 (mkF m 59 #[iv q0, iv q1, iv q2, iv q3, iv q4, iv q5, iv 3, iv mu1, iv cN, iv m0, iv mu2, iv cM, .unset, .unset, .unset, .unset, .unset, .unset, .unset, .unset, .unset] [])
      refine hG.st (fun t q => XS.iload S564.here hx rfl (hb hby at_59) rfl q) ?_
      show G T564 (mkF m 61 #[iv q0, iv q1, iv q2, iv q3, iv q4, iv q5, iv 3, iv mu1, iv cN, iv m0, iv mu2, iv cM, .unset, .unset, .unset, .unset, .unset, .unset, .unset, .unset, .unset] [(.int 3)])
      refine Own.Sit.callS hG S564 hx hEL (as := [(.int 3)]) (hW 0 _ rfl) (hW 1 _ rfl) (hW 2 _ rfl) (hW 3 _ rfl) (by decide) (own_ns3 l Z a0 H h564 S564.old) own_pd864215 rfl rfl (hz _ rfl) (rest := []) rfl (W := 0) (Own.hw0 rfl rfl) (hb hby at_61) (by decide) (by decide) (by decide) (by decide) (fun v951 vm951 T951 h951 S951 C951 q951 => ?_)
      obtain ⟨K951, x951, k951, rfl, u951, V951⟩ := q951
      have J951 : Own.Stp Z consts_1 vm564 h564 vm951 h951 [] := ⟨K951, C951⟩
      have ga_x951 : Z.heap.size ≤ x951 := Nat.le_trans S564.le u951
      refine hG.st (fun t q => XS.astore S951.here hx rfl (hb hby at_64) rfl rfl (l' := #[iv q0, iv q1, iv q2, iv q3, iv q4, iv q5, iv 3, iv mu1, iv cN, iv m0, iv mu2, iv cM, rv x951, .unset, .unset, .unset, .unset, .unset, .unset, .unset, .unset]) rfl (XS.aload S951.here hx rfl (hb hby at_66) rfl rfl q)) ?_
      show G T951 (mkF m 68 #[iv q0, iv q1, iv q2, iv q3, iv q4, iv q5, iv 3, iv mu1, iv cN, iv m0, iv mu2, iv cM, rv x951, .unset, .unset, .unset, .unset, .unset, .unset, .unset, .unset] [(.ref x951)])
      refine Own.Sit.arraylength hG S951 hx V951 rfl rfl (hb hby at_68) ?_
      show G T951 (mkF m 69 #[iv q0, iv q1, iv q2, iv q3, iv q4, iv q5, iv 3, iv mu1, iv cN, iv m0, iv mu2, iv cM, rv x951, .unset, .unset, .unset, .unset, .unset, .unset, .unset, .unset] [(.int 0)])
      refine hG.st (fun t q => XS.ifNo S951.here hx rfl (hb hby at_69) rfl ((if0 _ _).trans (teq (by decide : (0 : Int32) = (0 : Int32))).2) (XS.iload S951.here hx rfl (hb hby at_72) rfl q)) ?_
      show G T951 (mkF m 74 #[iv q0, iv q1, iv q2, iv q3, iv q4, iv q5, iv 3, iv mu1, iv cN, iv m0, iv mu2, iv cM, rv x951, .unset, .unset, .unset, .unset, .unset, .unset, .unset, .unset] [(.int mu1)])
      by_cases hc74 : mu1 = (0 : Int32)
      ·
        refine hG.st (fun t q => XS.ifYes S951.here hx rfl (pc0 := 74) (pc' := 85) rfl (hb hby at_74) rfl ((if0 _ _).trans (teq hc74).1) (by decide) (by decide) q) ?_
        show G T951 (mkF m 85 #[iv q0, iv q1, iv q2, iv q3, iv q4, iv q5, iv 3, iv mu1, iv cN, iv m0, iv mu2, iv cM, rv x951, .unset, .unset, .unset, .unset, .unset, .unset, .unset, .unset] [])
        refine Own.Sit.newO hG S951 hx (hW 6 _ rfl) (hW 7 _ rfl) (hW 8 _ rfl) rfl (hb hby at_85) (by decide) (by decide) (fun T952 h952 x952 g_x952 S952 J952 Sf952 E952 D952 => ?_)
        have lt_x952 := E952.lt
        have ga_x952 : Z.heap.size ≤ x952 := Nat.le_trans S951.le (Nat.le_of_eq g_x952.symm)
        have F953 : Fld Z h952 x952 "java/lang/String" "coder" "B" (.int 0) := D952 (Or.inr (hW 32 _ rfl)) (ty := .byte) (by decide)
        have F954 : Fld Z h952 x952 "java/lang/String" "value" "[B" .null := D952 (Or.inr (hW 34 _ rfl)) (ty := (.array .byte)) (by decide)
        refine hG.st (fun t q => XS.dup S952.here hx rfl (hb hby at_88) rfl rfl (XS.aload S952.here hx rfl (hb hby at_89) rfl rfl q)) ?_
        show G T952 (mkF m 91 #[iv q0, iv q1, iv q2, iv q3, iv q4, iv q5, iv 3, iv mu1, iv cN, iv m0, iv mu2, iv cM, rv x951, .unset, .unset, .unset, .unset, .unset, .unset, .unset, .unset] [(.ref x951), (.ref x952), (.ref x952)])
        have V955 := J952.arv V951 nin0
        refine Own.Sit.callI hG S952 hx hEL rfl (as := [(.ref x951)]) (hW 9 _ rfl) (hW 10 _ rfl) (hW 8 _ rfl) (hW 11 _ rfl) (by decide) (own_emp1 l Z a0 H x952 x951 h952 S952.old ga_x952 E952 F954 F953 V955) own_pd827e25 rfl rfl (hz _ rfl) (rest := [(.ref x952)]) rfl (W := 1) (Own.hw0 rfl rfl) (hb hby at_91) (by decide) (by decide) (by decide) (by decide) (fun v956 vm956 T956 h956 S956 C956 q956 => ?_)
        obtain ⟨K956, rfl, y956, St956⟩ := q956
        have J956 : Own.Stp Z consts_1 vm951 h952 vm956 h956 [x952] := ⟨K956, C956⟩
        refine hG.st (fun t q => XS.astore S956.here hx rfl (hb hby at_94) rfl rfl (l' := #[iv q0, iv q1, iv q2, iv q3, iv q4, iv q5, iv 3, iv mu1, iv cN, iv m0, iv mu2, iv cM, rv x951, rv x952, .unset, .unset, .unset, .unset, .unset, .unset, .unset]) rfl (XS.iload S956.here hx rfl (hb hby at_96) rfl q)) ?_
        show G T956 (mkF m 98 #[iv q0, iv q1, iv q2, iv q3, iv q4, iv q5, iv 3, iv mu1, iv cN, iv m0, iv mu2, iv cM, rv x951, rv x952, .unset, .unset, .unset, .unset, .unset, .unset, .unset] [(.int mu1)])
        by_cases hc98 : mu1 = (0 : Int32)
        ·
          refine hG.st (fun t q => XS.ifNo S956.here hx rfl (hb hby at_98) rfl ((if0 _ _).trans (teq hc98).2) (XS.iconst S956.here hx rfl (hb hby at_101) (XS.goto S956.here hx rfl (pc0 := 102) (pc' := 106) rfl (hb hby at_102) (by decide) (by decide) (XS.istore S956.here hx rfl (hb hby at_106) rfl (l' := #[iv q0, iv q1, iv q2, iv q3, iv q4, iv q5, iv 3, iv mu1, iv cN, iv m0, iv mu2, iv cM, rv x951, rv x952, iv 1, .unset, .unset, .unset, .unset, .unset, .unset]) rfl (XS.goto S956.here hx rfl (pc0 := 108) (pc' := 170) rfl (hb hby at_108) (by decide) (by decide) q))))) ?_
          show G T956 (mkF m 170 #[iv q0, iv q1, iv q2, iv q3, iv q4, iv q5, iv 3, iv mu1, iv cN, iv m0, iv mu2, iv cM, rv x951, rv x952, iv 1, .unset, .unset, .unset, .unset, .unset, .unset] [])
          have J957 : Own.Stp Z consts_1 vm564 h564 vm951 h952 [] := Own.Stp.trans J951 J952 (all0) all0
          have J958 : Own.Stp Z consts_1 vm564 h564 vm956 h956 [] := Own.Stp.trans J957 J956 (all0) (allS (Or.inr (Nat.le_trans J951.1.1 (Nat.le_of_eq g_x952.symm))) all0)
          exact JB vm956 T956 h956 (3 : Int32) x951 x952 y956 ([] : List Int32) (1 : Int32) .unset .unset (S956.mono (by decide) (by decide)) J958 St956 (own_PnL (n := 0) rfl (by decide) (by decide) (by decide) (by decide)) One.u One.u
        ·
          refine hG.st (fun t q => XS.ifYes S956.here hx rfl (pc0 := 98) (pc' := 105) rfl (hb hby at_98) rfl ((if0 _ _).trans (feq hc98).2) (by decide) (by decide) (XS.iconst S956.here hx rfl (hb hby at_105) (XS.istore S956.here hx rfl (hb hby at_106) rfl (l' := #[iv q0, iv q1, iv q2, iv q3, iv q4, iv q5, iv 3, iv mu1, iv cN, iv m0, iv mu2, iv cM, rv x951, rv x952, iv 0, .unset, .unset, .unset, .unset, .unset, .unset]) rfl (XS.goto S956.here hx rfl (pc0 := 108) (pc' := 170) rfl (hb hby at_108) (by decide) (by decide) q)))) ?_
          show G T956 (mkF m 170 #[iv q0, iv q1, iv q2, iv q3, iv q4, iv q5, iv 3, iv mu1, iv cN, iv m0, iv mu2, iv cM, rv x951, rv x952, iv 0, .unset, .unset, .unset, .unset, .unset, .unset] [])
          have J959 : Own.Stp Z consts_1 vm564 h564 vm951 h952 [] := Own.Stp.trans J951 J952 (all0) all0
          have J960 : Own.Stp Z consts_1 vm564 h564 vm956 h956 [] := Own.Stp.trans J959 J956 (all0) (allS (Or.inr (Nat.le_trans J951.1.1 (Nat.le_of_eq g_x952.symm))) all0)
          exact JB vm956 T956 h956 (3 : Int32) x951 x952 y956 ([] : List Int32) (0 : Int32) .unset .unset (S956.mono (by decide) (by decide)) J960 St956 (own_PnL (n := 0) rfl (by decide) (by decide) (by decide) (by decide)) One.u One.u
      ·
        refine hG.st (fun t q => XS.ifNo S951.here hx rfl (hb hby at_74) rfl ((if0 _ _).trans (feq hc74).1) (XS.iload S951.here hx rfl (hb hby at_77) rfl q)) ?_
        show G T951 (mkF m 79 #[iv q0, iv q1, iv q2, iv q3, iv q4, iv q5, iv 3, iv mu1, iv cN, iv m0, iv mu2, iv cM, rv x951, .unset, .unset, .unset, .unset, .unset, .unset, .unset, .unset] [(.int cN)])
        refine Own.Sit.callS hG S951 hx hEL (as := [(.int cN)]) (hW 61 _ rfl) (hW 62 _ rfl) (hW 8 _ rfl) (hW 63 _ rfl) (by decide) (own_valof l Z a0 H cN h951 S951.old (rcN)) own_pdabaf74 rfl rfl (hz _ rfl) (rest := []) rfl (W := 0) (Own.hw0 rfl rfl) (hb hby at_79) (by decide) (by decide) (by decide) (by decide) (fun v961 vm961 T961 h961 S961 C961 q961 => ?_)
        obtain ⟨K961, x961, y961, rfl, St961, u961⟩ := q961
        have J961 : Own.Stp Z consts_1 vm951 h951 vm961 h961 [] := ⟨K961, C961⟩
        refine hG.st (fun t q => XS.goto S961.here hx rfl (pc0 := 82) (pc' := 94) rfl (hb hby at_82) (by decide) (by decide) (XS.astore S961.here hx rfl (hb hby at_94) rfl rfl (l' := #[iv q0, iv q1, iv q2, iv q3, iv q4, iv q5, iv 3, iv mu1, iv cN, iv m0, iv mu2, iv cM, rv x951, rv x961, .unset, .unset, .unset, .unset, .unset, .unset, .unset]) rfl (XS.iload S961.here hx rfl (hb hby at_96) rfl q))) ?_
        show G T961 (mkF m 98 #[iv q0, iv q1, iv q2, iv q3, iv q4, iv q5, iv 3, iv mu1, iv cN, iv m0, iv mu2, iv cM, rv x951, rv x961, .unset, .unset, .unset, .unset, .unset, .unset, .unset] [(.int mu1)])
        by_cases hc98 : mu1 = (0 : Int32)
        ·
          refine hG.st (fun t q => XS.ifNo S961.here hx rfl (hb hby at_98) rfl ((if0 _ _).trans (teq hc98).2) (XS.iconst S961.here hx rfl (hb hby at_101) (XS.goto S961.here hx rfl (pc0 := 102) (pc' := 106) rfl (hb hby at_102) (by decide) (by decide) (XS.istore S961.here hx rfl (hb hby at_106) rfl (l' := #[iv q0, iv q1, iv q2, iv q3, iv q4, iv q5, iv 3, iv mu1, iv cN, iv m0, iv mu2, iv cM, rv x951, rv x961, iv 1, .unset, .unset, .unset, .unset, .unset, .unset]) rfl (XS.goto S961.here hx rfl (pc0 := 108) (pc' := 170) rfl (hb hby at_108) (by decide) (by decide) q))))) ?_
          show G T961 (mkF m 170 #[iv q0, iv q1, iv q2, iv q3, iv q4, iv q5, iv 3, iv mu1, iv cN, iv m0, iv mu2, iv cM, rv x951, rv x961, iv 1, .unset, .unset, .unset, .unset, .unset, .unset] [])
          have J962 : Own.Stp Z consts_1 vm564 h564 vm961 h961 [] := Own.Stp.trans J951 J961 (all0) all0
          exact JB vm961 T961 h961 (3 : Int32) x951 x961 y961 ([cN] : List Int32) (1 : Int32) .unset .unset (S961.mono (by decide) (by decide)) J962 St961 (own_PnL (n := 1) rfl (by decide) (by decide) (by decide) (by decide)) One.u One.u
        ·
          refine hG.st (fun t q => XS.ifYes S961.here hx rfl (pc0 := 98) (pc' := 105) rfl (hb hby at_98) rfl ((if0 _ _).trans (feq hc98).2) (by decide) (by decide) (XS.iconst S961.here hx rfl (hb hby at_105) (XS.istore S961.here hx rfl (hb hby at_106) rfl (l' := #[iv q0, iv q1, iv q2, iv q3, iv q4, iv q5, iv 3, iv mu1, iv cN, iv m0, iv mu2, iv cM, rv x951, rv x961, iv 0, .unset, .unset, .unset, .unset, .unset, .unset]) rfl (XS.goto S961.here hx rfl (pc0 := 108) (pc' := 170) rfl (hb hby at_108) (by decide) (by decide) q)))) ?_
          show G T961 (mkF m 170 #[iv q0, iv q1, iv q2, iv q3, iv q4, iv q5, iv 3, iv mu1, iv cN, iv m0, iv mu2, iv cM, rv x951, rv x961, iv 0, .unset, .unset, .unset, .unset, .unset, .unset] [])
          have J963 : Own.Stp Z consts_1 vm564 h564 vm961 h961 [] := Own.Stp.trans J951 J961 (all0) all0
          exact JB vm961 T961 h961 (3 : Int32) x951 x961 y961 ([cN] : List Int32) (0 : Int32) .unset .unset (S961.mono (by decide) (by decide)) J963 St961 (own_PnL (n := 1) rfl (by decide) (by decide) (by decide) (by decide)) One.u One.u
    by_cases hk4 : k0 = (4 : Int32)
    ·
      rw [hk4]
      show G T564 (mkF m 59 #[iv q0, iv q1, iv q2, iv q3, iv q4, iv q5, iv 4, iv mu1, iv cN, iv m0, iv mu2, iv cM, .unset, .unset, .unset, .unset, .unset, .unset, .unset, .unset, .unset] [])
      refine hG.st (fun t q => XS.iload S564.here hx rfl (hb hby at_59) rfl q) ?_
      show G T564 (mkF m 61 #[iv q0, iv q1, iv q2, iv q3, iv q4, iv q5, iv 4, iv mu1, iv cN, iv m0, iv mu2, iv cM, .unset, .unset, .unset, .unset, .unset, .unset, .unset, .unset, .unset] [(.int 4)])
      refine Own.Sit.callS hG S564 hx hEL (as := [(.int 4)]) (hW 0 _ rfl) (hW 1 _ rfl) (hW 2 _ rfl) (hW 3 _ rfl) (by decide) (own_ns4 l Z a0 H h564 S564.old) own_pd864215 rfl rfl (hz _ rfl) (rest := []) rfl (W := 0) (Own.hw0 rfl rfl) (hb hby at_61) (by decide) (by decide) (by decide) (by decide) (fun v964 vm964 T964 h964 S964 C964 q964 => ?_)
      obtain ⟨K964, x964, k964, rfl, u964, V964⟩ := q964
      have J964 : Own.Stp Z consts_1 vm564 h564 vm964 h964 [] := ⟨K964, C964⟩
      have ga_x964 : Z.heap.size ≤ x964 := Nat.le_trans S564.le u964
      refine hG.st (fun t q => XS.astore S964.here hx rfl (hb hby at_64) rfl rfl (l' := #[iv q0, iv q1, iv q2, iv q3, iv q4, iv q5, iv 4, iv mu1, iv cN, iv m0, iv mu2, iv cM, rv x964, .unset, .unset, .unset, .unset, .unset, .unset, .unset, .unset]) rfl (XS.aload S964.here hx rfl (hb hby at_66) rfl rfl q)) ?_
      show G T964 (mkF m 68 #[iv q0, iv q1, iv q2, iv q3, iv q4, iv q5, iv 4, iv mu1, iv cN, iv m0, iv mu2, iv cM, rv x964, .unset, .unset, .unset, .unset, .unset, .unset, .unset, .unset] [(.ref x964)])
      refine Own.Sit.arraylength hG S964 hx V964 rfl rfl (hb hby at_68) ?_
      show G T964 (mkF m 69 #[iv q0, iv q1, iv q2, iv q3, iv q4, iv q5, iv 4, iv mu1, iv cN, iv m0, iv mu2, iv cM, rv x964, .unset, .unset, .unset, .unset, .unset, .unset, .unset, .unset] [(.int 27)])
      refine hG.st (fun t q => XS.ifYes S964.here hx rfl (pc0 := 69) (pc' := 111) rfl (hb hby at_69) rfl ((if0 _ _).trans (feq (by decide : ¬ ((27 : Int32) = (0 : Int32)))).2) (by decide) (by decide) (XS.iloadN S964.here hx rfl (hb hby at_111) rfl q)) ?_
      show G T964 (mkF m 112 #[iv q0, iv q1, iv q2, iv q3, iv q4, iv q5, iv 4, iv mu1, iv cN, iv m0, iv mu2, iv cM, rv x964, .unset, .unset, .unset, .unset, .unset, .unset, .unset, .unset] [(.int q1)])
      refine Own.Sit.ldcI hG S964 hx (hW 5 _ rfl) rfl (hb hby at_112) ?_
      show G T964 (mkF m 114 #[iv q0, iv q1, iv q2, iv q3, iv q4, iv q5, iv 4, iv mu1, iv cN, iv m0, iv mu2, iv cM, rv x964, .unset, .unset, .unset, .unset, .unset, .unset, .unset, .unset] [(.int 2147483647), (.int q1)])
      refine hG.st (fun t q => XS.iand S964.here hx rfl (hb hby at_114) rfl (XS.aload S964.here hx rfl (hb hby at_115) rfl rfl q)) ?_
      show G T964 (mkF m 117 #[iv q0, iv q1, iv q2, iv q3, iv q4, iv q5, iv 4, iv mu1, iv cN, iv m0, iv mu2, iv cM, rv x964, .unset, .unset, .unset, .unset, .unset, .unset, .unset, .unset] [(.ref x964), (.int (q1 &&& (2147483647 : Int32)))])
      refine Own.Sit.arraylength hG S964 hx V964 rfl rfl (hb hby at_117) ?_
      show G T964 (mkF m 118 #[iv q0, iv q1, iv q2, iv q3, iv q4, iv q5, iv 4, iv mu1, iv cN, iv m0, iv mu2, iv cM, rv x964, .unset, .unset, .unset, .unset, .unset, .unset, .unset, .unset] [(.int 27), (.int (q1 &&& (2147483647 : Int32)))])
      refine hG.st (fun t q => Own.irem S964.here hx rfl (hb hby at_118) rfl (by decide) (XS.istore S964.here hx rfl (hb hby at_119) rfl (l' := #[iv q0, iv q1, iv q2, iv q3, iv q4, iv q5, iv 4, iv mu1, iv cN, iv m0, iv mu2, iv cM, rv x964, .unset, .unset, iv ((q1 &&& (2147483647 : Int32)) % (27 : Int32)), .unset, .unset, .unset, .unset, .unset]) rfl (XS.aload S964.here hx rfl (hb hby at_121) rfl rfl (XS.iload S964.here hx rfl (hb hby at_123) rfl q)))) ?_
      show G T964 (mkF m 125 #[iv q0, iv q1, iv q2, iv q3, iv q4, iv q5, iv 4, iv mu1, iv cN, iv m0, iv mu2, iv cM, rv x964, .unset, .unset, iv ((q1 &&& (2147483647 : Int32)) % (27 : Int32)), .unset, .unset, .unset, .unset, .unset] [(.int ((q1 &&& (2147483647 : Int32)) % (27 : Int32))), (.ref x964)])
      refine Own.Sit.caload hG S964 hx V964 (own_ix _ (27 : Int32) (by decide)) (own_get (cs := own_L4) (own_ixn (n := (27 : Int32)) (own_ix _ (27 : Int32) (by decide)) (by decide))) rfl rfl (hb hby at_125) ?_
      obtain ⟨o16, eo16⟩ : ∃ z, z = own_L4.getD ((q1 &&& (2147483647 : Int32)) % (27 : Int32)).toNatClampNeg 0 := ⟨_, rfl⟩
      rw [← eo16]
      show G T964 (mkF m 126 #[iv q0, iv q1, iv q2, iv q3, iv q4, iv q5, iv 4, iv mu1, iv cN, iv m0, iv mu2, iv cM, rv x964, .unset, .unset, iv ((q1 &&& (2147483647 : Int32)) % (27 : Int32)), .unset, .unset, .unset, .unset, .unset] [(.int o16)])
      refine hG.st (fun t q => XS.istore S964.here hx rfl (hb hby at_126) rfl (l' := #[iv q0, iv q1, iv q2, iv q3, iv q4, iv q5, iv 4, iv mu1, iv cN, iv m0, iv mu2, iv cM, rv x964, .unset, .unset, iv ((q1 &&& (2147483647 : Int32)) % (27 : Int32)), iv o16, .unset, .unset, .unset, .unset]) rfl (XS.iload S964.here hx rfl (hb hby at_128) rfl q)) ?_
      show G T964 (mkF m 130 #[iv q0, iv q1, iv q2, iv q3, iv q4, iv q5, iv 4, iv mu1, iv cN, iv m0, iv mu2, iv cM, rv x964, .unset, .unset, iv ((q1 &&& (2147483647 : Int32)) % (27 : Int32)), iv o16, .unset, .unset, .unset, .unset] [(.int mu1)])
      by_cases hc130 : mu1 = (0 : Int32)
      ·
        refine hG.st (fun t q => XS.ifYes S964.here hx rfl (pc0 := 130) (pc' := 140) rfl (hb hby at_130) rfl ((if0 _ _).trans (teq hc130).1) (by decide) (by decide) q) ?_
        show G T964 (mkF m 140 #[iv q0, iv q1, iv q2, iv q3, iv q4, iv q5, iv 4, iv mu1, iv cN, iv m0, iv mu2, iv cM, rv x964, .unset, .unset, iv ((q1 &&& (2147483647 : Int32)) % (27 : Int32)), iv o16, .unset, .unset, .unset, .unset] [])
        refine Own.Sit.newO hG S964 hx (hW 6 _ rfl) (hW 7 _ rfl) (hW 8 _ rfl) rfl (hb hby at_140) (by decide) (by decide) (fun T965 h965 x965 g_x965 S965 J965 Sf965 E965 D965 => ?_)
        have lt_x965 := E965.lt
        have ga_x965 : Z.heap.size ≤ x965 := Nat.le_trans S964.le (Nat.le_of_eq g_x965.symm)
        have F966 : Fld Z h965 x965 "java/lang/String" "coder" "B" (.int 0) := D965 (Or.inr (hW 32 _ rfl)) (ty := .byte) (by decide)
        have F967 : Fld Z h965 x965 "java/lang/String" "value" "[B" .null := D965 (Or.inr (hW 34 _ rfl)) (ty := (.array .byte)) (by decide)
        refine hG.st (fun t q => XS.dup S965.here hx rfl (hb hby at_143) rfl rfl (XS.aload S965.here hx rfl (hb hby at_144) rfl rfl q)) ?_
        show G T965 (mkF m 146 #[iv q0, iv q1, iv q2, iv q3, iv q4, iv q5, iv 4, iv mu1, iv cN, iv m0, iv mu2, iv cM, rv x964, .unset, .unset, iv ((q1 &&& (2147483647 : Int32)) % (27 : Int32)), iv o16, .unset, .unset, .unset, .unset] [(.ref x964), (.ref x965), (.ref x965)])
        have V968 := J965.arv V964 nin0
        refine Own.Sit.newStr hG S965 hx hWs hCm (hW 7 _ rfl) (hW 9 _ rfl) (hW 10 _ rfl) (cs := own_L4) ga_x965 Sf965 E965 F967 F966 V968 (by decide) (by decide) (by decide) (by decide) (nn := 27) (by decide) rfl (hz _ rfl) (rest := [(.ref x965)]) rfl (W := 1) (Own.hw0 rfl rfl) (hb hby at_146) (by decide) (by decide) (by decide) (by decide) (fun T969 h969 y969 S969 J969 u969 St969 => ?_)
        refine hG.st (fun t q => XS.astore S969.here hx rfl (hb hby at_149) rfl rfl (l' := #[iv q0, iv q1, iv q2, iv q3, iv q4, iv q5, iv 4, iv mu1, iv cN, iv m0, iv mu2, iv cM, rv x964, rv x965, .unset, iv ((q1 &&& (2147483647 : Int32)) % (27 : Int32)), iv o16, .unset, .unset, .unset, .unset]) rfl (XS.iload S969.here hx rfl (hb hby at_151) rfl (XS.ifYes S969.here hx rfl (pc0 := 153) (pc' := 163) rfl (hb hby at_153) rfl ((if0 _ _).trans (teq (hc130 : mu1 = (0 : Int32))).1) (by decide) (by decide) (XS.iconst S969.here hx rfl (hb hby at_163) (XS.goto S969.here hx rfl (pc0 := 164) (pc' := 168) rfl (hb hby at_164) (by decide) (by decide) (XS.istore S969.here hx rfl (hb hby at_168) rfl (l' := #[iv q0, iv q1, iv q2, iv q3, iv q4, iv q5, iv 4, iv mu1, iv cN, iv m0, iv mu2, iv cM, rv x964, rv x965, iv 1, iv ((q1 &&& (2147483647 : Int32)) % (27 : Int32)), iv o16, .unset, .unset, .unset, .unset]) rfl q)))))) ?_
        show G T969 (mkF m 170 #[iv q0, iv q1, iv q2, iv q3, iv q4, iv q5, iv 4, iv mu1, iv cN, iv m0, iv mu2, iv cM, rv x964, rv x965, iv 1, iv ((q1 &&& (2147483647 : Int32)) % (27 : Int32)), iv o16, .unset, .unset, .unset, .unset] [])
        have J970 : Own.Stp Z consts_1 vm564 h564 vm964 h965 [] := Own.Stp.trans J964 J965 (all0) all0
        have J971 : Own.Stp Z consts_1 vm564 h564 vm964 h969 [] := Own.Stp.trans J970 J969 (all0) (allS (Or.inr (Nat.le_trans J964.1.1 (Nat.le_of_eq g_x965.symm))) all0)
        exact JB vm964 T969 h969 (4 : Int32) x964 x965 y969 own_L4 (1 : Int32) (.val (.int ((q1 &&& (2147483647 : Int32)) % (27 : Int32)))) (.val (.int o16)) (S969.mono (by decide) (by decide)) J971 St969 (own_PnL (n := 27) rfl (by decide) (by decide) (by decide) (by decide)) (One.val rfl) (One.val rfl)
      ·
        refine hG.st (fun t q => XS.ifNo S964.here hx rfl (hb hby at_130) rfl ((if0 _ _).trans (feq hc130).1) (XS.aload S964.here hx rfl (hb hby at_133) rfl rfl (XS.iload S964.here hx rfl (hb hby at_135) rfl (XS.iload S964.here hx rfl (hb hby at_137) rfl q)))) ?_
        show G T964 (mkF m 139 #[iv q0, iv q1, iv q2, iv q3, iv q4, iv q5, iv 4, iv mu1, iv cN, iv m0, iv mu2, iv cM, rv x964, .unset, .unset, iv ((q1 &&& (2147483647 : Int32)) % (27 : Int32)), iv o16, .unset, .unset, .unset, .unset] [(.int cN), (.int ((q1 &&& (2147483647 : Int32)) % (27 : Int32))), (.ref x964)])
        refine Own.Sit.stC hG S964 hx V964 ga_x964 (own_ix _ (27 : Int32) (by decide)) ((q1 &&& (2147483647 : Int32)) % (27 : Int32)).toNatClampNeg rfl (by rw [List.length_map]; exact (own_ixn (n := (27 : Int32)) (own_ix _ (27 : Int32) (by decide)) (by decide))) rfl rfl (hb hby at_139) (fun T972 h972 S972 J972 V972 => ?_)
        rw [own_nar rcN, ← List.map_set] at V972
        show G T972 (mkF m 140 #[iv q0, iv q1, iv q2, iv q3, iv q4, iv q5, iv 4, iv mu1, iv cN, iv m0, iv mu2, iv cM, rv x964, .unset, .unset, iv ((q1 &&& (2147483647 : Int32)) % (27 : Int32)), iv o16, .unset, .unset, .unset, .unset] [])
        refine Own.Sit.newO hG S972 hx (hW 6 _ rfl) (hW 7 _ rfl) (hW 8 _ rfl) rfl (hb hby at_140) (by decide) (by decide) (fun T973 h973 x973 g_x973 S973 J973 Sf973 E973 D973 => ?_)
        have lt_x973 := E973.lt
        have ga_x973 : Z.heap.size ≤ x973 := Nat.le_trans S972.le (Nat.le_of_eq g_x973.symm)
        have F974 : Fld Z h973 x973 "java/lang/String" "coder" "B" (.int 0) := D973 (Or.inr (hW 32 _ rfl)) (ty := .byte) (by decide)
        have F975 : Fld Z h973 x973 "java/lang/String" "value" "[B" .null := D973 (Or.inr (hW 34 _ rfl)) (ty := (.array .byte)) (by decide)
        refine hG.st (fun t q => XS.dup S973.here hx rfl (hb hby at_143) rfl rfl (XS.aload S973.here hx rfl (hb hby at_144) rfl rfl q)) ?_
        show G T973 (mkF m 146 #[iv q0, iv q1, iv q2, iv q3, iv q4, iv q5, iv 4, iv mu1, iv cN, iv m0, iv mu2, iv cM, rv x964, .unset, .unset, iv ((q1 &&& (2147483647 : Int32)) % (27 : Int32)), iv o16, .unset, .unset, .unset, .unset] [(.ref x964), (.ref x973), (.ref x973)])
        have V976 := J973.arv V972 nin0
        refine Own.Sit.newStr hG S973 hx hWs hCm (hW 7 _ rfl) (hW 9 _ rfl) (hW 10 _ rfl) (cs := (own_L4.set ((q1 &&& (2147483647 : Int32)) % (27 : Int32)).toNatClampNeg cN)) ga_x973 Sf973 E973 F975 F974 V976 (by rw [List.length_set]; decide) (by rw [List.length_set]; decide) (by rw [List.length_set]; decide) (own_setr (by decide) rcN) (nn := 27) (by rw [List.length_set]; decide) rfl (hz _ rfl) (rest := [(.ref x973)]) rfl (W := 1) (Own.hw0 rfl rfl) (hb hby at_146) (by decide) (by decide) (by decide) (by decide) (fun T977 h977 y977 S977 J977 u977 St977 => ?_)
        refine hG.st (fun t q => XS.astore S977.here hx rfl (hb hby at_149) rfl rfl (l' := #[iv q0, iv q1, iv q2, iv q3, iv q4, iv q5, iv 4, iv mu1, iv cN, iv m0, iv mu2, iv cM, rv x964, rv x973, .unset, iv ((q1 &&& (2147483647 : Int32)) % (27 : Int32)), iv o16, .unset, .unset, .unset, .unset]) rfl (XS.iload S977.here hx rfl (hb hby at_151) rfl (XS.ifNo S977.here hx rfl (hb hby at_153) rfl ((if0 _ _).trans (feq (hc130 : ¬ (mu1 = (0 : Int32)))).1) (XS.iload S977.here hx rfl (hb hby at_156) rfl (XS.iload S977.here hx rfl (hb hby at_158) rfl q))))) ?_
        show G T977 (mkF m 160 #[iv q0, iv q1, iv q2, iv q3, iv q4, iv q5, iv 4, iv mu1, iv cN, iv m0, iv mu2, iv cM, rv x964, rv x973, .unset, iv ((q1 &&& (2147483647 : Int32)) % (27 : Int32)), iv o16, .unset, .unset, .unset, .unset] [(.int o16), (.int cN)])
        by_cases hc160 : cN = o16
        ·
          refine hG.st (fun t q => XS.icmpNo S977.here hx rfl (hb hby at_160) rfl (teq hc160).2 (XS.iconst S977.here hx rfl (hb hby at_163) (XS.goto S977.here hx rfl (pc0 := 164) (pc' := 168) rfl (hb hby at_164) (by decide) (by decide) (XS.istore S977.here hx rfl (hb hby at_168) rfl (l' := #[iv q0, iv q1, iv q2, iv q3, iv q4, iv q5, iv 4, iv mu1, iv cN, iv m0, iv mu2, iv cM, rv x964, rv x973, iv 1, iv ((q1 &&& (2147483647 : Int32)) % (27 : Int32)), iv o16, .unset, .unset, .unset, .unset]) rfl q)))) ?_
          show G T977 (mkF m 170 #[iv q0, iv q1, iv q2, iv q3, iv q4, iv q5, iv 4, iv mu1, iv cN, iv m0, iv mu2, iv cM, rv x964, rv x973, iv 1, iv ((q1 &&& (2147483647 : Int32)) % (27 : Int32)), iv o16, .unset, .unset, .unset, .unset] [])
          have J978 : Own.Stp Z consts_1 vm564 h564 vm964 h972 [] := Own.Stp.trans J964 J972 (all0) (allS (Or.inr u964) all0)
          have J979 : Own.Stp Z consts_1 vm564 h564 vm964 h973 [] := Own.Stp.trans J978 J973 (all0) all0
          have J980 : Own.Stp Z consts_1 vm564 h564 vm964 h977 [] := Own.Stp.trans J979 J977 (all0) (allS (Or.inr (Nat.le_trans J978.1.1 (Nat.le_of_eq g_x973.symm))) all0)
          exact JB vm964 T977 h977 (4 : Int32) x964 x973 y977 (own_L4.set ((q1 &&& (2147483647 : Int32)) % (27 : Int32)).toNatClampNeg cN) (1 : Int32) (.val (.int ((q1 &&& (2147483647 : Int32)) % (27 : Int32)))) (.val (.int o16)) (S977.mono (by decide) (by decide)) J980 St977 (own_PnL (n := 27) (by rw [List.length_set]; rfl) (by decide) (by decide) (by decide) (by decide)) (One.val rfl) (One.val rfl)
        ·
          refine hG.st (fun t q => XS.icmpYes S977.here hx rfl (pc0 := 160) (pc' := 167) rfl (hb hby at_160) rfl (feq hc160).2 (by decide) (by decide) (XS.iconst S977.here hx rfl (hb hby at_167) (XS.istore S977.here hx rfl (hb hby at_168) rfl (l' := #[iv q0, iv q1, iv q2, iv q3, iv q4, iv q5, iv 4, iv mu1, iv cN, iv m0, iv mu2, iv cM, rv x964, rv x973, iv 0, iv ((q1 &&& (2147483647 : Int32)) % (27 : Int32)), iv o16, .unset, .unset, .unset, .unset]) rfl q))) ?_
          show G T977 (mkF m 170 #[iv q0, iv q1, iv q2, iv q3, iv q4, iv q5, iv 4, iv mu1, iv cN, iv m0, iv mu2, iv cM, rv x964, rv x973, iv 0, iv ((q1 &&& (2147483647 : Int32)) % (27 : Int32)), iv o16, .unset, .unset, .unset, .unset] [])
          have J981 : Own.Stp Z consts_1 vm564 h564 vm964 h972 [] := Own.Stp.trans J964 J972 (all0) (allS (Or.inr u964) all0)
          have J982 : Own.Stp Z consts_1 vm564 h564 vm964 h973 [] := Own.Stp.trans J981 J973 (all0) all0
          have J983 : Own.Stp Z consts_1 vm564 h564 vm964 h977 [] := Own.Stp.trans J982 J977 (all0) (allS (Or.inr (Nat.le_trans J981.1.1 (Nat.le_of_eq g_x973.symm))) all0)
          exact JB vm964 T977 h977 (4 : Int32) x964 x973 y977 (own_L4.set ((q1 &&& (2147483647 : Int32)) % (27 : Int32)).toNatClampNeg cN) (0 : Int32) (.val (.int ((q1 &&& (2147483647 : Int32)) % (27 : Int32)))) (.val (.int o16)) (S977.mono (by decide) (by decide)) J983 St977 (own_PnL (n := 27) (by rw [List.length_set]; rfl) (by decide) (by decide) (by decide) (by decide)) (One.val rfl) (One.val rfl)
    rw [own_fiveB ek0 hk0 hk1 hk2 hk3 hk4]
    show G T564 (mkF m 59 #[iv q0, iv q1, iv q2, iv q3, iv q4, iv q5, iv 5, iv mu1, iv cN, iv m0, iv mu2, iv cM, .unset, .unset, .unset, .unset, .unset, .unset, .unset, .unset, .unset] [])
    refine hG.st (fun t q => XS.iload S564.here hx rfl (hb hby at_59) rfl q) ?_
    show G T564 (mkF m 61 #[iv q0, iv q1, iv q2, iv q3, iv q4, iv q5, iv 5, iv mu1, iv cN, iv m0, iv mu2, iv cM, .unset, .unset, .unset, .unset, .unset, .unset, .unset, .unset, .unset] [(.int 5)])
    refine Own.Sit.callS hG S564 hx hEL (as := [(.int 5)]) (hW 0 _ rfl) (hW 1 _ rfl) (hW 2 _ rfl) (hW 3 _ rfl) (by decide) (own_ns5 l Z a0 H h564 S564.old) own_pd864215 rfl rfl (hz _ rfl) (rest := []) rfl (W := 0) (Own.hw0 rfl rfl) (hb hby at_61) (by decide) (by decide) (by decide) (by decide) (fun v984 vm984 T984 h984 S984 C984 q984 => ?_)
    obtain ⟨K984, x984, k984, rfl, u984, V984⟩ := q984
    have J984 : Own.Stp Z consts_1 vm564 h564 vm984 h984 [] := ⟨K984, C984⟩
    have ga_x984 : Z.heap.size ≤ x984 := Nat.le_trans S564.le u984
    refine hG.st (fun t q => XS.astore S984.here hx rfl (hb hby at_64) rfl rfl (l' := #[iv q0, iv q1, iv q2, iv q3, iv q4, iv q5, iv 5, iv mu1, iv cN, iv m0, iv mu2, iv cM, rv x984, .unset, .unset, .unset, .unset, .unset, .unset, .unset, .unset]) rfl (XS.aload S984.here hx rfl (hb hby at_66) rfl rfl q)) ?_
    show G T984 (mkF m 68 #[iv q0, iv q1, iv q2, iv q3, iv q4, iv q5, iv 5, iv mu1, iv cN, iv m0, iv mu2, iv cM, rv x984, .unset, .unset, .unset, .unset, .unset, .unset, .unset, .unset] [(.ref x984)])
    refine Own.Sit.arraylength hG S984 hx V984 rfl rfl (hb hby at_68) ?_
    show G T984 (mkF m 69 #[iv q0, iv q1, iv q2, iv q3, iv q4, iv q5, iv 5, iv mu1, iv cN, iv m0, iv mu2, iv cM, rv x984, .unset, .unset, .unset, .unset, .unset, .unset, .unset, .unset] [(.int 35)])
    refine hG.st (fun t q => XS.ifYes S984.here hx rfl (pc0 := 69) (pc' := 111) rfl (hb hby at_69) rfl ((if0 _ _).trans (feq (by decide : ¬ ((35 : Int32) = (0 : Int32)))).2) (by decide) (by decide) (XS.iloadN S984.here hx rfl (hb hby at_111) rfl q)) ?_
    show G T984 (mkF m 112 #[iv q0, iv q1, iv q2, iv q3, iv q4, iv q5, iv 5, iv mu1, iv cN, iv m0, iv mu2, iv cM, rv x984, .unset, .unset, .unset, .unset, .unset, .unset, .unset, .unset] [(.int q1)])
    refine Own.Sit.ldcI hG S984 hx (hW 5 _ rfl) rfl (hb hby at_112) ?_
    show G T984 (mkF m 114 #[iv q0, iv q1, iv q2, iv q3, iv q4, iv q5, iv 5, iv mu1, iv cN, iv m0, iv mu2, iv cM, rv x984, .unset, .unset, .unset, .unset, .unset, .unset, .unset, .unset] [(.int 2147483647), (.int q1)])
    refine hG.st (fun t q => XS.iand S984.here hx rfl (hb hby at_114) rfl (XS.aload S984.here hx rfl (hb hby at_115) rfl rfl q)) ?_
    show G T984 (mkF m 117 #[iv q0, iv q1, iv q2, iv q3, iv q4, iv q5, iv 5, iv mu1, iv cN, iv m0, iv mu2, iv cM, rv x984, .unset, .unset, .unset, .unset, .unset, .unset, .unset, .unset] [(.ref x984), (.int (q1 &&& (2147483647 : Int32)))])
    refine Own.Sit.arraylength hG S984 hx V984 rfl rfl (hb hby at_117) ?_
    show G T984 (mkF m 118 #[iv q0, iv q1, iv q2, iv q3, iv q4, iv q5, iv 5, iv mu1, iv cN, iv m0, iv mu2, iv cM, rv x984, .unset, .unset, .unset, .unset, .unset, .unset, .unset, .unset] [(.int 35), (.int (q1 &&& (2147483647 : Int32)))])
    refine hG.st (fun t q => Own.irem S984.here hx rfl (hb hby at_118) rfl (by decide) (XS.istore S984.here hx rfl (hb hby at_119) rfl (l' := #[iv q0, iv q1, iv q2, iv q3, iv q4, iv q5, iv 5, iv mu1, iv cN, iv m0, iv mu2, iv cM, rv x984, .unset, .unset, iv ((q1 &&& (2147483647 : Int32)) % (35 : Int32)), .unset, .unset, .unset, .unset, .unset]) rfl (XS.aload S984.here hx rfl (hb hby at_121) rfl rfl (XS.iload S984.here hx rfl (hb hby at_123) rfl q)))) ?_
    show G T984 (mkF m 125 #[iv q0, iv q1, iv q2, iv q3, iv q4, iv q5, iv 5, iv mu1, iv cN, iv m0, iv mu2, iv cM, rv x984, .unset, .unset, iv ((q1 &&& (2147483647 : Int32)) % (35 : Int32)), .unset, .unset, .unset, .unset, .unset] [(.int ((q1 &&& (2147483647 : Int32)) % (35 : Int32))), (.ref x984)])
    refine Own.Sit.caload hG S984 hx V984 (own_ix _ (35 : Int32) (by decide)) (own_get (cs := own_L5) (own_ixn (n := (35 : Int32)) (own_ix _ (35 : Int32) (by decide)) (by decide))) rfl rfl (hb hby at_125) ?_
    obtain ⟨o16, eo16⟩ : ∃ z, z = own_L5.getD ((q1 &&& (2147483647 : Int32)) % (35 : Int32)).toNatClampNeg 0 := ⟨_, rfl⟩
    rw [← eo16]
    show G T984 (mkF m 126 #[iv q0, iv q1, iv q2, iv q3, iv q4, iv q5, iv 5, iv mu1, iv cN, iv m0, iv mu2, iv cM, rv x984, .unset, .unset, iv ((q1 &&& (2147483647 : Int32)) % (35 : Int32)), .unset, .unset, .unset, .unset, .unset] [(.int o16)])
    refine hG.st (fun t q => XS.istore S984.here hx rfl (hb hby at_126) rfl (l' := #[iv q0, iv q1, iv q2, iv q3, iv q4, iv q5, iv 5, iv mu1, iv cN, iv m0, iv mu2, iv cM, rv x984, .unset, .unset, iv ((q1 &&& (2147483647 : Int32)) % (35 : Int32)), iv o16, .unset, .unset, .unset, .unset]) rfl (XS.iload S984.here hx rfl (hb hby at_128) rfl q)) ?_
    show G T984 (mkF m 130 #[iv q0, iv q1, iv q2, iv q3, iv q4, iv q5, iv 5, iv mu1, iv cN, iv m0, iv mu2, iv cM, rv x984, .unset, .unset, iv ((q1 &&& (2147483647 : Int32)) % (35 : Int32)), iv o16, .unset, .unset, .unset, .unset] [(.int mu1)])
    by_cases hc130 : mu1 = (0 : Int32)
    ·
      refine hG.st (fun t q => XS.ifYes S984.here hx rfl (pc0 := 130) (pc' := 140) rfl (hb hby at_130) rfl ((if0 _ _).trans (teq hc130).1) (by decide) (by decide) q) ?_
      show G T984 (mkF m 140 #[iv q0, iv q1, iv q2, iv q3, iv q4, iv q5, iv 5, iv mu1, iv cN, iv m0, iv mu2, iv cM, rv x984, .unset, .unset, iv ((q1 &&& (2147483647 : Int32)) % (35 : Int32)), iv o16, .unset, .unset, .unset, .unset] [])
      refine Own.Sit.newO hG S984 hx (hW 6 _ rfl) (hW 7 _ rfl) (hW 8 _ rfl) rfl (hb hby at_140) (by decide) (by decide) (fun T985 h985 x985 g_x985 S985 J985 Sf985 E985 D985 => ?_)
      have lt_x985 := E985.lt
      have ga_x985 : Z.heap.size ≤ x985 := Nat.le_trans S984.le (Nat.le_of_eq g_x985.symm)
      have F986 : Fld Z h985 x985 "java/lang/String" "coder" "B" (.int 0) := D985 (Or.inr (hW 32 _ rfl)) (ty := .byte) (by decide)
      have F987 : Fld Z h985 x985 "java/lang/String" "value" "[B" .null := D985 (Or.inr (hW 34 _ rfl)) (ty := (.array .byte)) (by decide)
      refine hG.st (fun t q => XS.dup S985.here hx rfl (hb hby at_143) rfl rfl (XS.aload S985.here hx rfl (hb hby at_144) rfl rfl q)) ?_
      show G T985 (mkF m 146 #[iv q0, iv q1, iv q2, iv q3, iv q4, iv q5, iv 5, iv mu1, iv cN, iv m0, iv mu2, iv cM, rv x984, .unset, .unset, iv ((q1 &&& (2147483647 : Int32)) % (35 : Int32)), iv o16, .unset, .unset, .unset, .unset] [(.ref x984), (.ref x985), (.ref x985)])
      have V988 := J985.arv V984 nin0
      refine Own.Sit.newStr hG S985 hx hWs hCm (hW 7 _ rfl) (hW 9 _ rfl) (hW 10 _ rfl) (cs := own_L5) ga_x985 Sf985 E985 F987 F986 V988 (by decide) (by decide) (by decide) (by decide) (nn := 35) (by decide) rfl (hz _ rfl) (rest := [(.ref x985)]) rfl (W := 1) (Own.hw0 rfl rfl) (hb hby at_146) (by decide) (by decide) (by decide) (by decide) (fun T989 h989 y989 S989 J989 u989 St989 => ?_)
      refine hG.st (fun t q => XS.astore S989.here hx rfl (hb hby at_149) rfl rfl (l' := #[iv q0, iv q1, iv q2, iv q3, iv q4, iv q5, iv 5, iv mu1, iv cN, iv m0, iv mu2, iv cM, rv x984, rv x985, .unset, iv ((q1 &&& (2147483647 : Int32)) % (35 : Int32)), iv o16, .unset, .unset, .unset, .unset]) rfl (XS.iload S989.here hx rfl (hb hby at_151) rfl (XS.ifYes S989.here hx rfl (pc0 := 153) (pc' := 163) rfl (hb hby at_153) rfl ((if0 _ _).trans (teq (hc130 : mu1 = (0 : Int32))).1) (by decide) (by decide) (XS.iconst S989.here hx rfl (hb hby at_163) (XS.goto S989.here hx rfl (pc0 := 164) (pc' := 168) rfl (hb hby at_164) (by decide) (by decide) (XS.istore S989.here hx rfl (hb hby at_168) rfl (l' := #[iv q0, iv q1, iv q2, iv q3, iv q4, iv q5, iv 5, iv mu1, iv cN, iv m0, iv mu2, iv cM, rv x984, rv x985, iv 1, iv ((q1 &&& (2147483647 : Int32)) % (35 : Int32)), iv o16, .unset, .unset, .unset, .unset]) rfl q)))))) ?_
      show G T989 (mkF m 170 #[iv q0, iv q1, iv q2, iv q3, iv q4, iv q5, iv 5, iv mu1, iv cN, iv m0, iv mu2, iv cM, rv x984, rv x985, iv 1, iv ((q1 &&& (2147483647 : Int32)) % (35 : Int32)), iv o16, .unset, .unset, .unset, .unset] [])
      have J990 : Own.Stp Z consts_1 vm564 h564 vm984 h985 [] := Own.Stp.trans J984 J985 (all0) all0
      have J991 : Own.Stp Z consts_1 vm564 h564 vm984 h989 [] := Own.Stp.trans J990 J989 (all0) (allS (Or.inr (Nat.le_trans J984.1.1 (Nat.le_of_eq g_x985.symm))) all0)
      exact JB vm984 T989 h989 (5 : Int32) x984 x985 y989 own_L5 (1 : Int32) (.val (.int ((q1 &&& (2147483647 : Int32)) % (35 : Int32)))) (.val (.int o16)) (S989.mono (by decide) (by decide)) J991 St989 (own_PnL (n := 35) rfl (by decide) (by decide) (by decide) (by decide)) (One.val rfl) (One.val rfl)
    ·
      refine hG.st (fun t q => XS.ifNo S984.here hx rfl (hb hby at_130) rfl ((if0 _ _).trans (feq hc130).1) (XS.aload S984.here hx rfl (hb hby at_133) rfl rfl (XS.iload S984.here hx rfl (hb hby at_135) rfl (XS.iload S984.here hx rfl (hb hby at_137) rfl q)))) ?_
      show G T984 (mkF m 139 #[iv q0, iv q1, iv q2, iv q3, iv q4, iv q5, iv 5, iv mu1, iv cN, iv m0, iv mu2, iv cM, rv x984, .unset, .unset, iv ((q1 &&& (2147483647 : Int32)) % (35 : Int32)), iv o16, .unset, .unset, .unset, .unset] [(.int cN), (.int ((q1 &&& (2147483647 : Int32)) % (35 : Int32))), (.ref x984)])
      refine Own.Sit.stC hG S984 hx V984 ga_x984 (own_ix _ (35 : Int32) (by decide)) ((q1 &&& (2147483647 : Int32)) % (35 : Int32)).toNatClampNeg rfl (by rw [List.length_map]; exact (own_ixn (n := (35 : Int32)) (own_ix _ (35 : Int32) (by decide)) (by decide))) rfl rfl (hb hby at_139) (fun T992 h992 S992 J992 V992 => ?_)
      rw [own_nar rcN, ← List.map_set] at V992
      show G T992 (mkF m 140 #[iv q0, iv q1, iv q2, iv q3, iv q4, iv q5, iv 5, iv mu1, iv cN, iv m0, iv mu2, iv cM, rv x984, .unset, .unset, iv ((q1 &&& (2147483647 : Int32)) % (35 : Int32)), iv o16, .unset, .unset, .unset, .unset] [])
      refine Own.Sit.newO hG S992 hx (hW 6 _ rfl) (hW 7 _ rfl) (hW 8 _ rfl) rfl (hb hby at_140) (by decide) (by decide) (fun T993 h993 x993 g_x993 S993 J993 Sf993 E993 D993 => ?_)
      have lt_x993 := E993.lt
      have ga_x993 : Z.heap.size ≤ x993 := Nat.le_trans S992.le (Nat.le_of_eq g_x993.symm)
      have F994 : Fld Z h993 x993 "java/lang/String" "coder" "B" (.int 0) := D993 (Or.inr (hW 32 _ rfl)) (ty := .byte) (by decide)
      have F995 : Fld Z h993 x993 "java/lang/String" "value" "[B" .null := D993 (Or.inr (hW 34 _ rfl)) (ty := (.array .byte)) (by decide)
      refine hG.st (fun t q => XS.dup S993.here hx rfl (hb hby at_143) rfl rfl (XS.aload S993.here hx rfl (hb hby at_144) rfl rfl q)) ?_
      show G T993 (mkF m 146 #[iv q0, iv q1, iv q2, iv q3, iv q4, iv q5, iv 5, iv mu1, iv cN, iv m0, iv mu2, iv cM, rv x984, .unset, .unset, iv ((q1 &&& (2147483647 : Int32)) % (35 : Int32)), iv o16, .unset, .unset, .unset, .unset] [(.ref x984), (.ref x993), (.ref x993)])
      have V996 := J993.arv V992 nin0
      refine Own.Sit.newStr hG S993 hx hWs hCm (hW 7 _ rfl) (hW 9 _ rfl) (hW 10 _ rfl) (cs := (own_L5.set ((q1 &&& (2147483647 : Int32)) % (35 : Int32)).toNatClampNeg cN)) ga_x993 Sf993 E993 F995 F994 V996 (by rw [List.length_set]; decide) (by rw [List.length_set]; decide) (by rw [List.length_set]; decide) (own_setr (by decide) rcN) (nn := 35) (by rw [List.length_set]; decide) rfl (hz _ rfl) (rest := [(.ref x993)]) rfl (W := 1) (Own.hw0 rfl rfl) (hb hby at_146) (by decide) (by decide) (by decide) (by decide) (fun T997 h997 y997 S997 J997 u997 St997 => ?_)
      refine hG.st (fun t q => XS.astore S997.here hx rfl (hb hby at_149) rfl rfl (l' := #[iv q0, iv q1, iv q2, iv q3, iv q4, iv q5, iv 5, iv mu1, iv cN, iv m0, iv mu2, iv cM, rv x984, rv x993, .unset, iv ((q1 &&& (2147483647 : Int32)) % (35 : Int32)), iv o16, .unset, .unset, .unset, .unset]) rfl (XS.iload S997.here hx rfl (hb hby at_151) rfl (XS.ifNo S997.here hx rfl (hb hby at_153) rfl ((if0 _ _).trans (feq (hc130 : ¬ (mu1 = (0 : Int32)))).1) (XS.iload S997.here hx rfl (hb hby at_156) rfl (XS.iload S997.here hx rfl (hb hby at_158) rfl q))))) ?_
      show G T997 (mkF m 160 #[iv q0, iv q1, iv q2, iv q3, iv q4, iv q5, iv 5, iv mu1, iv cN, iv m0, iv mu2, iv cM, rv x984, rv x993, .unset, iv ((q1 &&& (2147483647 : Int32)) % (35 : Int32)), iv o16, .unset, .unset, .unset, .unset] [(.int o16), (.int cN)])
      by_cases hc160 : cN = o16
      ·
        refine hG.st (fun t q => XS.icmpNo S997.here hx rfl (hb hby at_160) rfl (teq hc160).2 (XS.iconst S997.here hx rfl (hb hby at_163) (XS.goto S997.here hx rfl (pc0 := 164) (pc' := 168) rfl (hb hby at_164) (by decide) (by decide) (XS.istore S997.here hx rfl (hb hby at_168) rfl (l' := #[iv q0, iv q1, iv q2, iv q3, iv q4, iv q5, iv 5, iv mu1, iv cN, iv m0, iv mu2, iv cM, rv x984, rv x993, iv 1, iv ((q1 &&& (2147483647 : Int32)) % (35 : Int32)), iv o16, .unset, .unset, .unset, .unset]) rfl q)))) ?_
        show G T997 (mkF m 170 #[iv q0, iv q1, iv q2, iv q3, iv q4, iv q5, iv 5, iv mu1, iv cN, iv m0, iv mu2, iv cM, rv x984, rv x993, iv 1, iv ((q1 &&& (2147483647 : Int32)) % (35 : Int32)), iv o16, .unset, .unset, .unset, .unset] [])
        have J998 : Own.Stp Z consts_1 vm564 h564 vm984 h992 [] := Own.Stp.trans J984 J992 (all0) (allS (Or.inr u984) all0)
        have J999 : Own.Stp Z consts_1 vm564 h564 vm984 h993 [] := Own.Stp.trans J998 J993 (all0) all0
        have J1000 : Own.Stp Z consts_1 vm564 h564 vm984 h997 [] := Own.Stp.trans J999 J997 (all0) (allS (Or.inr (Nat.le_trans J998.1.1 (Nat.le_of_eq g_x993.symm))) all0)
        exact JB vm984 T997 h997 (5 : Int32) x984 x993 y997 (own_L5.set ((q1 &&& (2147483647 : Int32)) % (35 : Int32)).toNatClampNeg cN) (1 : Int32) (.val (.int ((q1 &&& (2147483647 : Int32)) % (35 : Int32)))) (.val (.int o16)) (S997.mono (by decide) (by decide)) J1000 St997 (own_PnL (n := 35) (by rw [List.length_set]; rfl) (by decide) (by decide) (by decide) (by decide)) (One.val rfl) (One.val rfl)
      ·
        refine hG.st (fun t q => XS.icmpYes S997.here hx rfl (pc0 := 160) (pc' := 167) rfl (hb hby at_160) rfl (feq hc160).2 (by decide) (by decide) (XS.iconst S997.here hx rfl (hb hby at_167) (XS.istore S997.here hx rfl (hb hby at_168) rfl (l' := #[iv q0, iv q1, iv q2, iv q3, iv q4, iv q5, iv 5, iv mu1, iv cN, iv m0, iv mu2, iv cM, rv x984, rv x993, iv 0, iv ((q1 &&& (2147483647 : Int32)) % (35 : Int32)), iv o16, .unset, .unset, .unset, .unset]) rfl q))) ?_
        show G T997 (mkF m 170 #[iv q0, iv q1, iv q2, iv q3, iv q4, iv q5, iv 5, iv mu1, iv cN, iv m0, iv mu2, iv cM, rv x984, rv x993, iv 0, iv ((q1 &&& (2147483647 : Int32)) % (35 : Int32)), iv o16, .unset, .unset, .unset, .unset] [])
        have J1001 : Own.Stp Z consts_1 vm564 h564 vm984 h992 [] := Own.Stp.trans J984 J992 (all0) (allS (Or.inr u984) all0)
        have J1002 : Own.Stp Z consts_1 vm564 h564 vm984 h993 [] := Own.Stp.trans J1001 J993 (all0) all0
        have J1003 : Own.Stp Z consts_1 vm564 h564 vm984 h997 [] := Own.Stp.trans J1002 J997 (all0) (allS (Or.inr (Nat.le_trans J1001.1.1 (Nat.le_of_eq g_x993.symm))) all0)
        exact JB vm984 T997 h997 (5 : Int32) x984 x993 y997 (own_L5.set ((q1 &&& (2147483647 : Int32)) % (35 : Int32)).toNatClampNeg cN) (0 : Int32) (.val (.int ((q1 &&& (2147483647 : Int32)) % (35 : Int32)))) (.val (.int o16)) (S997.mono (by decide) (by decide)) J1003 St997 (own_PnL (n := 35) (by rw [List.length_set]; rfl) (by decide) (by decide) (by decide) (by decide)) (One.val rfl) (One.val rfl)
  refine hG.st (fun t q => XS.iloadN S0.here hx rfl (hb hby at_0) rfl (XS.iconst S0.here hx rfl (hb hby at_1) (XS.iushr S0.here hx rfl (hb hby at_2) rfl (XS.bipush S0.here hx rfl (hb hby at_3) (Own.irem S0.here hx rfl (hb hby at_5) rfl (by decide) (XS.istore S0.here hx rfl (hb hby at_6) rfl (l' := #[iv q0, iv q1, iv q2, iv q3, iv q4, iv q5, iv (((q0.toUInt32 >>> ((1 : Int32) &&& 31).toUInt32).toInt32) % (6 : Int32)), .unset, .unset, .unset, .unset, .unset, .unset, .unset, .unset, .unset, .unset, .unset, .unset, .unset, .unset]) rfl q)))))) ?_
  show G T0 (mkF m 8 #[iv q0, iv q1, iv q2, iv q3, iv q4, iv q5, iv (((q0.toUInt32 >>> ((1 : Int32) &&& 31).toUInt32).toInt32) % (6 : Int32)), .unset, .unset, .unset, .unset, .unset, .unset, .unset, .unset, .unset, .unset, .unset, .unset, .unset, .unset] [])
  refine hG.st (fun t q => XS.iloadN S0.here hx rfl (hb hby at_8) rfl (XS.iconst S0.here hx rfl (hb hby at_9) (XS.iand S0.here hx rfl (hb hby at_10) rfl q))) ?_
  show G T0 (mkF m 11 #[iv q0, iv q1, iv q2, iv q3, iv q4, iv q5, iv (((q0.toUInt32 >>> ((1 : Int32) &&& 31).toUInt32).toInt32) % (6 : Int32)), .unset, .unset, .unset, .unset, .unset, .unset, .unset, .unset, .unset, .unset, .unset, .unset, .unset, .unset] [(.int (q0 &&& (1 : Int32)))])
  by_cases hc11 : (q0 &&& (1 : Int32)) = (0 : Int32)
  ·
    refine hG.st (fun t q => XS.ifYes S0.here hx rfl (pc0 := 11) (pc' := 18) rfl (hb hby at_11) rfl ((if0 _ _).trans (teq hc11).1) (by decide) (by decide) (XS.iconst S0.here hx rfl (hb hby at_18) (XS.istore S0.here hx rfl (hb hby at_19) rfl (l' := #[iv q0, iv q1, iv q2, iv q3, iv q4, iv q5, iv (((q0.toUInt32 >>> ((1 : Int32) &&& 31).toUInt32).toInt32) % (6 : Int32)), iv 0, .unset, .unset, .unset, .unset, .unset, .unset, .unset, .unset, .unset, .unset, .unset, .unset, .unset]) rfl (XS.iloadN S0.here hx rfl (hb hby at_21) rfl (XS.sipush S0.here hx rfl (hb hby at_22) (XS.iand S0.here hx rfl (hb hby at_25) rfl q)))))) ?_
    show G T0 (mkF m 26 #[iv q0, iv q1, iv q2, iv q3, iv q4, iv q5, iv (((q0.toUInt32 >>> ((1 : Int32) &&& 31).toUInt32).toInt32) % (6 : Int32)), iv 0, .unset, .unset, .unset, .unset, .unset, .unset, .unset, .unset, .unset, .unset, .unset, .unset, .unset] [(.int (q2 &&& (255 : Int32)))])
    refine hG.st (fun t q => XS.i2c S0.here hx rfl (hb hby at_26) rfl (XS.istore S0.here hx rfl (hb hby at_27) rfl (l' := #[iv q0, iv q1, iv q2, iv q3, iv q4, iv q5, iv (((q0.toUInt32 >>> ((1 : Int32) &&& 31).toUInt32).toInt32) % (6 : Int32)), iv 0, iv ((q2 &&& (255 : Int32)).toUInt32.toUInt16.toUInt32.toInt32), .unset, .unset, .unset, .unset, .unset, .unset, .unset, .unset, .unset, .unset, .unset, .unset]) rfl (XS.iloadN S0.here hx rfl (hb hby at_29) rfl (XS.iconst S0.here hx rfl (hb hby at_30) (XS.iushr S0.here hx rfl (hb hby at_31) rfl (XS.bipush S0.here hx rfl (hb hby at_32) q)))))) ?_
    show G T0 (mkF m 34 #[iv q0, iv q1, iv q2, iv q3, iv q4, iv q5, iv (((q0.toUInt32 >>> ((1 : Int32) &&& 31).toUInt32).toInt32) % (6 : Int32)), iv 0, iv ((q2 &&& (255 : Int32)).toUInt32.toUInt16.toUInt32.toInt32), .unset, .unset, .unset, .unset, .unset, .unset, .unset, .unset, .unset, .unset, .unset, .unset] [(.int 7), (.int ((q3.toUInt32 >>> ((1 : Int32) &&& 31).toUInt32).toInt32))])
    refine hG.st (fun t q => XS.iand S0.here hx rfl (hb hby at_34) rfl (XS.istore S0.here hx rfl (hb hby at_35) rfl (l' := #[iv q0, iv q1, iv q2, iv q3, iv q4, iv q5, iv (((q0.toUInt32 >>> ((1 : Int32) &&& 31).toUInt32).toInt32) % (6 : Int32)), iv 0, iv ((q2 &&& (255 : Int32)).toUInt32.toUInt16.toUInt32.toInt32), iv (((q3.toUInt32 >>> ((1 : Int32) &&& 31).toUInt32).toInt32) &&& (7 : Int32)), .unset, .unset, .unset, .unset, .unset, .unset, .unset, .unset, .unset, .unset, .unset]) rfl (XS.iloadN S0.here hx rfl (hb hby at_37) rfl (XS.iconst S0.here hx rfl (hb hby at_38) (XS.iand S0.here hx rfl (hb hby at_39) rfl q))))) ?_
    show G T0 (mkF m 40 #[iv q0, iv q1, iv q2, iv q3, iv q4, iv q5, iv (((q0.toUInt32 >>> ((1 : Int32) &&& 31).toUInt32).toInt32) % (6 : Int32)), iv 0, iv ((q2 &&& (255 : Int32)).toUInt32.toUInt16.toUInt32.toInt32), iv (((q3.toUInt32 >>> ((1 : Int32) &&& 31).toUInt32).toInt32) &&& (7 : Int32)), .unset, .unset, .unset, .unset, .unset, .unset, .unset, .unset, .unset, .unset, .unset] [(.int (q3 &&& (1 : Int32)))])
    by_cases hc40 : (q3 &&& (1 : Int32)) = (0 : Int32)
    ·
      refine hG.st (fun t q => XS.ifYes S0.here hx rfl (pc0 := 40) (pc' := 47) rfl (hb hby at_40) rfl ((if0 _ _).trans (teq hc40).1) (by decide) (by decide) (XS.iconst S0.here hx rfl (hb hby at_47) (XS.istore S0.here hx rfl (hb hby at_48) rfl (l' := #[iv q0, iv q1, iv q2, iv q3, iv q4, iv q5, iv (((q0.toUInt32 >>> ((1 : Int32) &&& 31).toUInt32).toInt32) % (6 : Int32)), iv 0, iv ((q2 &&& (255 : Int32)).toUInt32.toUInt16.toUInt32.toInt32), iv (((q3.toUInt32 >>> ((1 : Int32) &&& 31).toUInt32).toInt32) &&& (7 : Int32)), iv 0, .unset, .unset, .unset, .unset, .unset, .unset, .unset, .unset, .unset, .unset]) rfl (XS.iload S0.here hx rfl (hb hby at_50) rfl (XS.sipush S0.here hx rfl (hb hby at_52) (XS.iand S0.here hx rfl (hb hby at_55) rfl q)))))) ?_
      show G T0 (mkF m 56 #[iv q0, iv q1, iv q2, iv q3, iv q4, iv q5, iv (((q0.toUInt32 >>> ((1 : Int32) &&& 31).toUInt32).toInt32) % (6 : Int32)), iv 0, iv ((q2 &&& (255 : Int32)).toUInt32.toUInt16.toUInt32.toInt32), iv (((q3.toUInt32 >>> ((1 : Int32) &&& 31).toUInt32).toInt32) &&& (7 : Int32)), iv 0, .unset, .unset, .unset, .unset, .unset, .unset, .unset, .unset, .unset, .unset] [(.int (q5 &&& (255 : Int32)))])
      refine hG.st (fun t q => XS.i2c S0.here hx rfl (hb hby at_56) rfl (XS.istore S0.here hx rfl (hb hby at_57) rfl (l' := #[iv q0, iv q1, iv q2, iv q3, iv q4, iv q5, iv (((q0.toUInt32 >>> ((1 : Int32) &&& 31).toUInt32).toInt32) % (6 : Int32)), iv 0, iv ((q2 &&& (255 : Int32)).toUInt32.toUInt16.toUInt32.toInt32), iv (((q3.toUInt32 >>> ((1 : Int32) &&& 31).toUInt32).toInt32) &&& (7 : Int32)), iv 0, iv ((q5 &&& (255 : Int32)).toUInt32.toUInt16.toUInt32.toInt32), .unset, .unset, .unset, .unset, .unset, .unset, .unset, .unset, .unset]) rfl q)) ?_
      show G T0 (mkF m 59 #[iv q0, iv q1, iv q2, iv q3, iv q4, iv q5, iv (((q0.toUInt32 >>> ((1 : Int32) &&& 31).toUInt32).toInt32) % (6 : Int32)), iv 0, iv ((q2 &&& (255 : Int32)).toUInt32.toUInt16.toUInt32.toInt32), iv (((q3.toUInt32 >>> ((1 : Int32) &&& 31).toUInt32).toInt32) &&& (7 : Int32)), iv 0, iv ((q5 &&& (255 : Int32)).toUInt32.toUInt16.toUInt32.toInt32), .unset, .unset, .unset, .unset, .unset, .unset, .unset, .unset, .unset] [])
      exact J59 vm0 T0 h0 (0 : Int32) (0 : Int32) (S0.mono (by decide) (by decide)) (Own.Stp.mono (Own.Stp.refl S0.ch) all0) 
    ·
      refine hG.st (fun t q => XS.ifNo S0.here hx rfl (hb hby at_40) rfl ((if0 _ _).trans (feq hc40).1) (XS.iconst S0.here hx rfl (hb hby at_43) (XS.goto S0.here hx rfl (pc0 := 44) (pc' := 48) rfl (hb hby at_44) (by decide) (by decide) (XS.istore S0.here hx rfl (hb hby at_48) rfl (l' := #[iv q0, iv q1, iv q2, iv q3, iv q4, iv q5, iv (((q0.toUInt32 >>> ((1 : Int32) &&& 31).toUInt32).toInt32) % (6 : Int32)), iv 0, iv ((q2 &&& (255 : Int32)).toUInt32.toUInt16.toUInt32.toInt32), iv (((q3.toUInt32 >>> ((1 : Int32) &&& 31).toUInt32).toInt32) &&& (7 : Int32)), iv 1, .unset, .unset, .unset, .unset, .unset, .unset, .unset, .unset, .unset, .unset]) rfl (XS.iload S0.here hx rfl (hb hby at_50) rfl (XS.sipush S0.here hx rfl (hb hby at_52) q)))))) ?_
      show G T0 (mkF m 55 #[iv q0, iv q1, iv q2, iv q3, iv q4, iv q5, iv (((q0.toUInt32 >>> ((1 : Int32) &&& 31).toUInt32).toInt32) % (6 : Int32)), iv 0, iv ((q2 &&& (255 : Int32)).toUInt32.toUInt16.toUInt32.toInt32), iv (((q3.toUInt32 >>> ((1 : Int32) &&& 31).toUInt32).toInt32) &&& (7 : Int32)), iv 1, .unset, .unset, .unset, .unset, .unset, .unset, .unset, .unset, .unset, .unset] [(.int 255), (.int q5)])
      refine hG.st (fun t q => XS.iand S0.here hx rfl (hb hby at_55) rfl (XS.i2c S0.here hx rfl (hb hby at_56) rfl (XS.istore S0.here hx rfl (hb hby at_57) rfl (l' := #[iv q0, iv q1, iv q2, iv q3, iv q4, iv q5, iv (((q0.toUInt32 >>> ((1 : Int32) &&& 31).toUInt32).toInt32) % (6 : Int32)), iv 0, iv ((q2 &&& (255 : Int32)).toUInt32.toUInt16.toUInt32.toInt32), iv (((q3.toUInt32 >>> ((1 : Int32) &&& 31).toUInt32).toInt32) &&& (7 : Int32)), iv 1, iv ((q5 &&& (255 : Int32)).toUInt32.toUInt16.toUInt32.toInt32), .unset, .unset, .unset, .unset, .unset, .unset, .unset, .unset, .unset]) rfl q))) ?_
      show G T0 (mkF m 59 #[iv q0, iv q1, iv q2, iv q3, iv q4, iv q5, iv (((q0.toUInt32 >>> ((1 : Int32) &&& 31).toUInt32).toInt32) % (6 : Int32)), iv 0, iv ((q2 &&& (255 : Int32)).toUInt32.toUInt16.toUInt32.toInt32), iv (((q3.toUInt32 >>> ((1 : Int32) &&& 31).toUInt32).toInt32) &&& (7 : Int32)), iv 1, iv ((q5 &&& (255 : Int32)).toUInt32.toUInt16.toUInt32.toInt32), .unset, .unset, .unset, .unset, .unset, .unset, .unset, .unset, .unset] [])
      exact J59 vm0 T0 h0 (0 : Int32) (1 : Int32) (S0.mono (by decide) (by decide)) (Own.Stp.mono (Own.Stp.refl S0.ch) all0) 
  ·
    refine hG.st (fun t q => XS.ifNo S0.here hx rfl (hb hby at_11) rfl ((if0 _ _).trans (feq hc11).1) (XS.iconst S0.here hx rfl (hb hby at_14) (XS.goto S0.here hx rfl (pc0 := 15) (pc' := 19) rfl (hb hby at_15) (by decide) (by decide) (XS.istore S0.here hx rfl (hb hby at_19) rfl (l' := #[iv q0, iv q1, iv q2, iv q3, iv q4, iv q5, iv (((q0.toUInt32 >>> ((1 : Int32) &&& 31).toUInt32).toInt32) % (6 : Int32)), iv 1, .unset, .unset, .unset, .unset, .unset, .unset, .unset, .unset, .unset, .unset, .unset, .unset, .unset]) rfl (XS.iloadN S0.here hx rfl (hb hby at_21) rfl (XS.sipush S0.here hx rfl (hb hby at_22) q)))))) ?_
    show G T0 (mkF m 25 #[iv q0, iv q1, iv q2, iv q3, iv q4, iv q5, iv (((q0.toUInt32 >>> ((1 : Int32) &&& 31).toUInt32).toInt32) % (6 : Int32)), iv 1, .unset, .unset, .unset, .unset, .unset, .unset, .unset, .unset, .unset, .unset, .unset, .unset, .unset] [(.int 255), (.int q2)])
    refine hG.st (fun t q => XS.iand S0.here hx rfl (hb hby at_25) rfl (XS.i2c S0.here hx rfl (hb hby at_26) rfl (XS.istore S0.here hx rfl (hb hby at_27) rfl (l' := #[iv q0, iv q1, iv q2, iv q3, iv q4, iv q5, iv (((q0.toUInt32 >>> ((1 : Int32) &&& 31).toUInt32).toInt32) % (6 : Int32)), iv 1, iv ((q2 &&& (255 : Int32)).toUInt32.toUInt16.toUInt32.toInt32), .unset, .unset, .unset, .unset, .unset, .unset, .unset, .unset, .unset, .unset, .unset, .unset]) rfl (XS.iloadN S0.here hx rfl (hb hby at_29) rfl (XS.iconst S0.here hx rfl (hb hby at_30) (XS.iushr S0.here hx rfl (hb hby at_31) rfl q)))))) ?_
    show G T0 (mkF m 32 #[iv q0, iv q1, iv q2, iv q3, iv q4, iv q5, iv (((q0.toUInt32 >>> ((1 : Int32) &&& 31).toUInt32).toInt32) % (6 : Int32)), iv 1, iv ((q2 &&& (255 : Int32)).toUInt32.toUInt16.toUInt32.toInt32), .unset, .unset, .unset, .unset, .unset, .unset, .unset, .unset, .unset, .unset, .unset, .unset] [(.int ((q3.toUInt32 >>> ((1 : Int32) &&& 31).toUInt32).toInt32))])
    refine hG.st (fun t q => XS.bipush S0.here hx rfl (hb hby at_32) (XS.iand S0.here hx rfl (hb hby at_34) rfl (XS.istore S0.here hx rfl (hb hby at_35) rfl (l' := #[iv q0, iv q1, iv q2, iv q3, iv q4, iv q5, iv (((q0.toUInt32 >>> ((1 : Int32) &&& 31).toUInt32).toInt32) % (6 : Int32)), iv 1, iv ((q2 &&& (255 : Int32)).toUInt32.toUInt16.toUInt32.toInt32), iv (((q3.toUInt32 >>> ((1 : Int32) &&& 31).toUInt32).toInt32) &&& (7 : Int32)), .unset, .unset, .unset, .unset, .unset, .unset, .unset, .unset, .unset, .unset, .unset]) rfl (XS.iloadN S0.here hx rfl (hb hby at_37) rfl (XS.iconst S0.here hx rfl (hb hby at_38) (XS.iand S0.here hx rfl (hb hby at_39) rfl q)))))) ?_
    show G T0 (mkF m 40 #[iv q0, iv q1, iv q2, iv q3, iv q4, iv q5, iv (((q0.toUInt32 >>> ((1 : Int32) &&& 31).toUInt32).toInt32) % (6 : Int32)), iv 1, iv ((q2 &&& (255 : Int32)).toUInt32.toUInt16.toUInt32.toInt32), iv (((q3.toUInt32 >>> ((1 : Int32) &&& 31).toUInt32).toInt32) &&& (7 : Int32)), .unset, .unset, .unset, .unset, .unset, .unset, .unset, .unset, .unset, .unset, .unset] [(.int (q3 &&& (1 : Int32)))])
    by_cases hc40 : (q3 &&& (1 : Int32)) = (0 : Int32)
    ·
      refine hG.st (fun t q => XS.ifYes S0.here hx rfl (pc0 := 40) (pc' := 47) rfl (hb hby at_40) rfl ((if0 _ _).trans (teq hc40).1) (by decide) (by decide) (XS.iconst S0.here hx rfl (hb hby at_47) (XS.istore S0.here hx rfl (hb hby at_48) rfl (l' := #[iv q0, iv q1, iv q2, iv q3, iv q4, iv q5, iv (((q0.toUInt32 >>> ((1 : Int32) &&& 31).toUInt32).toInt32) % (6 : Int32)), iv 1, iv ((q2 &&& (255 : Int32)).toUInt32.toUInt16.toUInt32.toInt32), iv (((q3.toUInt32 >>> ((1 : Int32) &&& 31).toUInt32).toInt32) &&& (7 : Int32)), iv 0, .unset, .unset, .unset, .unset, .unset, .unset, .unset, .unset, .unset, .unset]) rfl (XS.iload S0.here hx rfl (hb hby at_50) rfl (XS.sipush S0.here hx rfl (hb hby at_52) (XS.iand S0.here hx rfl (hb hby at_55) rfl q)))))) ?_
      show G T0 (mkF m 56 #[iv q0, iv q1, iv q2, iv q3, iv q4, iv q5, iv (((q0.toUInt32 >>> ((1 : Int32) &&& 31).toUInt32).toInt32) % (6 : Int32)), iv 1, iv ((q2 &&& (255 : Int32)).toUInt32.toUInt16.toUInt32.toInt32), iv (((q3.toUInt32 >>> ((1 : Int32) &&& 31).toUInt32).toInt32) &&& (7 : Int32)), iv 0, .unset, .unset, .unset, .unset, .unset, .unset, .unset, .unset, .unset, .unset] [(.int (q5 &&& (255 : Int32)))])
      refine hG.st (fun t q => XS.i2c S0.here hx rfl (hb hby at_56) rfl (XS.istore S0.here hx rfl (hb hby at_57) rfl (l' := #[iv q0, iv q1, iv q2, iv q3, iv q4, iv q5, iv (((q0.toUInt32 >>> ((1 : Int32) &&& 31).toUInt32).toInt32) % (6 : Int32)), iv 1, iv ((q2 &&& (255 : Int32)).toUInt32.toUInt16.toUInt32.toInt32), iv (((q3.toUInt32 >>> ((1 : Int32) &&& 31).toUInt32).toInt32) &&& (7 : Int32)), iv 0, iv ((q5 &&& (255 : Int32)).toUInt32.toUInt16.toUInt32.toInt32), .unset, .unset, .unset, .unset, .unset, .unset, .unset, .unset, .unset]) rfl q)) ?_
      show G T0 (mkF m 59 #[iv q0, iv q1, iv q2, iv q3, iv q4, iv q5, iv (((q0.toUInt32 >>> ((1 : Int32) &&& 31).toUInt32).toInt32) % (6 : Int32)), iv 1, iv ((q2 &&& (255 : Int32)).toUInt32.toUInt16.toUInt32.toInt32), iv (((q3.toUInt32 >>> ((1 : Int32) &&& 31).toUInt32).toInt32) &&& (7 : Int32)), iv 0, iv ((q5 &&& (255 : Int32)).toUInt32.toUInt16.toUInt32.toInt32), .unset, .unset, .unset, .unset, .unset, .unset, .unset, .unset, .unset] [])
      exact J59 vm0 T0 h0 (1 : Int32) (0 : Int32) (S0.mono (by decide) (by decide)) (Own.Stp.mono (Own.Stp.refl S0.ch) all0) 
    ·
      refine hG.st (fun t q => XS.ifNo S0.here hx rfl (hb hby at_40) rfl ((if0 _ _).trans (feq hc40).1) (XS.iconst S0.here hx rfl (hb hby at_43) (XS.goto S0.here hx rfl (pc0 := 44) (pc' := 48) rfl (hb hby at_44) (by decide) (by decide) (XS.istore S0.here hx rfl (hb hby at_48) rfl (l' := #[iv q0, iv q1, iv q2, iv q3, iv q4, iv q5, iv (((q0.toUInt32 >>> ((1 : Int32) &&& 31).toUInt32).toInt32) % (6 : Int32)), iv 1, iv ((q2 &&& (255 : Int32)).toUInt32.toUInt16.toUInt32.toInt32), iv (((q3.toUInt32 >>> ((1 : Int32) &&& 31).toUInt32).toInt32) &&& (7 : Int32)), iv 1, .unset, .unset, .unset, .unset, .unset, .unset, .unset, .unset, .unset, .unset]) rfl (XS.iload S0.here hx rfl (hb hby at_50) rfl (XS.sipush S0.here hx rfl (hb hby at_52) q)))))) ?_
      show G T0 (mkF m 55 #[iv q0, iv q1, iv q2, iv q3, iv q4, iv q5, iv (((q0.toUInt32 >>> ((1 : Int32) &&& 31).toUInt32).toInt32) % (6 : Int32)), iv 1, iv ((q2 &&& (255 : Int32)).toUInt32.toUInt16.toUInt32.toInt32), iv (((q3.toUInt32 >>> ((1 : Int32) &&& 31).toUInt32).toInt32) &&& (7 : Int32)), iv 1, .unset, .unset, .unset, .unset, .unset, .unset, .unset, .unset, .unset, .unset] [(.int 255), (.int q5)])
      refine hG.st (fun t q => XS.iand S0.here hx rfl (hb hby at_55) rfl (XS.i2c S0.here hx rfl (hb hby at_56) rfl (XS.istore S0.here hx rfl (hb hby at_57) rfl (l' := #[iv q0, iv q1, iv q2, iv q3, iv q4, iv q5, iv (((q0.toUInt32 >>> ((1 : Int32) &&& 31).toUInt32).toInt32) % (6 : Int32)), iv 1, iv ((q2 &&& (255 : Int32)).toUInt32.toUInt16.toUInt32.toInt32), iv (((q3.toUInt32 >>> ((1 : Int32) &&& 31).toUInt32).toInt32) &&& (7 : Int32)), iv 1, iv ((q5 &&& (255 : Int32)).toUInt32.toUInt16.toUInt32.toInt32), .unset, .unset, .unset, .unset, .unset, .unset, .unset, .unset, .unset]) rfl q))) ?_
      show G T0 (mkF m 59 #[iv q0, iv q1, iv q2, iv q3, iv q4, iv q5, iv (((q0.toUInt32 >>> ((1 : Int32) &&& 31).toUInt32).toInt32) % (6 : Int32)), iv 1, iv ((q2 &&& (255 : Int32)).toUInt32.toUInt16.toUInt32.toInt32), iv (((q3.toUInt32 >>> ((1 : Int32) &&& 31).toUInt32).toInt32) &&& (7 : Int32)), iv 1, iv ((q5 &&& (255 : Int32)).toUInt32.toUInt16.toUInt32.toInt32), .unset, .unset, .unset, .unset, .unset, .unset, .unset, .unset, .unset] [])
      exact J59 vm0 T0 h0 (1 : Int32) (1 : Int32) (S0.mono (by decide) (by decide)) (Own.Stp.mono (Own.Stp.refl S0.ch) all0) 
set_option maxRecDepth 65536 in
set_option maxHeartbeats 40000000 in
theorem own_comes {Post : Tables → Env → Array Value → State → Outcome → State → Prop} (hpost : ∀ tb e args s v u, (limb_1_1.after args s (.returned v) u = true ∧ limb_1_2.after args s (.returned v) u = true ∧ True) → ReturnedEndW s (.returned v) u (Jvm.fieldLocs frame_1_writes args s ++ Jvm.arrayLocs frame_1_arrays args s ++ Jvm.staticLocs frame_1_statics s) 40 7552 → Post tb e args s (.returned v) u) :
    ArmFor flags0 classFile x code maxLocals ret World_1 tables_1 room_1 Calls_1 rest_1 Pre_1 Post := by
  intro l hfl _ _ p e ha hc hk s m args below hf hA hF happ hP
  obtain ⟨hcalls, hrest, hpre⟩ := hP
  obtain ⟨-, -, -, hnamed, -, -, -, hat⟩ := (Spec.applies_iff hf).mp happ
  obtain ⟨hg, hn⟩ := and_e (Cond.before_iff.mp (show (Jvm.Cond.and given_1 narrow_1).before args s = true from hpre))
  obtain ⟨hcount, hg0⟩ := and_e hg
  obtain ⟨ha0, hg1⟩ := and_e hg0
  obtain ⟨ha1, hg2⟩ := and_e hg1
  obtain ⟨ha2, hg3⟩ := and_e hg2
  obtain ⟨ha3, hg4⟩ := and_e hg3
  obtain ⟨ha4, hg5⟩ := and_e hg4
  have ha5 := hg5
  obtain ⟨w0, w1, w2, w3, w4, w5, rfl⟩ : ∃ w0 w1 w2 w3 w4 w5 : Value, args = #[w0, w1, w2, w3, w4, w5] := by
    have hs : args.size = 6 := by simpa [Cond.value, given_1] using hcount
    obtain ⟨L⟩ := args
    match L, hs with
    | [w0, w1, w2, w3, w4, w5], _ => exact ⟨w0, w1, w2, w3, w4, w5, rfl⟩
  have hw := fun d (hd : d ∈ tables_1) => atoms_spec (ws := Jvm.Cond.code x code maxLocals ret :: tables_1) hat d (List.mem_cons_of_mem _ hd)
  have hW := fun (i : Nat) (w : Jvm.Cond) (e : tables_1[i]? = some w) => hw w (List.mem_of_getElem? e)
  obtain ⟨hsets, hown0⟩ := atoms_of _ (rest_1_c_eq ▸ (show rest_1_c.before _ s = true from hrest))
  have hfit : Fit s := fun {y c} hc i hi => by
    obtain ⟨ha, rfl⟩ := Array.getElem?_eq_some_iff.mp hc
    have q := List.all_eq_true.mp ((Array.all_eq_true_iff_forall_mem.mp hF) _ (Array.getElem_mem ha)) i (List.mem_range.mpr hi)
    simpa [Array.getElem?_eq_getElem hi] using q
  obtain ⟨i0, ea0⟩ := is_v ha0
  obtain rfl : w0 = (.int i0) := Option.some.inj ea0
  obtain ⟨i1, ea1⟩ := is_v ha1
  obtain rfl : w1 = (.int i1) := Option.some.inj ea1
  obtain ⟨i2, ea2⟩ := is_v ha2
  obtain rfl : w2 = (.int i2) := Option.some.inj ea2
  obtain ⟨i3, ea3⟩ := is_v ha3
  obtain rfl : w3 = (.int i3) := Option.some.inj ea3
  obtain ⟨i4, ea4⟩ := is_v ha4
  obtain rfl : w4 = (.int i4) := Option.some.inj ea4
  obtain ⟨i5, ea5⟩ := is_v ha5
  obtain rfl : w5 = (.int i5) := Option.some.inj ea5
  have ncs := not_v (Cond.before_iff.mp (hsets _ (List.mem_of_getElem? (i := 2) rfl)))
  obtain ⟨zcs, ecs⟩ := is_v (Cond.before_iff.mp (hsets _ (List.mem_of_getElem? (i := 1) rfl)))
  have hCm : Own.Cmp s := ⟨zcs, Sta.start ecs (Or.inl (hsets _ (List.mem_of_getElem? (i := 0) rfl))), gotF (Cond.eq_ints ecs (Term.int_eval (0))) ncs⟩
  obtain ⟨vsi, esi, rsi⟩ := isR_v (Cond.before_iff.mp (hsets _ (List.mem_of_getElem? (i := 8) rfl)))
  have hSi : Own.Sio s := ⟨vsi, Sta.start esi (Or.inl (hsets _ (List.mem_of_getElem? (i := 7) rfl))), rsi⟩
  have hEL : EW s _ consts_1 := (EW.cons (hW 42 _ rfl) (by decide) (EW.cons (hW 55 _ rfl) (by decide) (EW.cons (hW 56 _ rfl) (by decide) (EW.cons (hW 57 _ rfl) (by decide) (EW.cons (hW 58 _ rfl) (by decide) (EW.cons (hW 60 _ rfl) (by decide) (EW.cons (hW 59 _ rfl) (by decide) EW.nil)))))))
  have hCH : CHv s consts_1 s.vm s.heap := CHv.start hEL (fun p hp => hcalls.1 p hp) (hsets _ (List.mem_of_getElem? (i := 2) rfl)) (hW 24 _ rfl) (hW 7 _ rfl)
  have HW : own_Wld s _ := ⟨hw, hCm, hSi, hEL⟩
  obtain ⟨n, o, h1, h2, h3, _, L, rfl, ⟨⟨-, rfl⟩, N⟩, -, hq⟩ := own_law l s _ HW (cw := tables_1) i0 i1 i2 i3 i4 i5 s.heap ⟨Nat.le_refl _, fun _ _ q => q⟩ p e ha hc hk s m _ below hf ((Spec.applies_iff_loose hf).mp happ).1 ⟨rfl, State.Warmed39.refl s, rfl, hCH⟩ trivial
  exact ⟨n, _, h1, h2, h3, hpost _ _ _ _ _ _ ⟨Cond.after_iff.mpr rfl, Cond.after_iff.mpr (eq_i res_at (Term.int_eval (1)) rfl), trivial⟩ ⟨hq.1, hq.2.1, hq.2.2.1, hq.2.2.2.sift fun y hy => Or.inr (N y hy)⟩⟩
theorem main_1_1 : Claimed_1_1 := own_comes fun _ _ _ _ _ _ h hF => ⟨h.1, hF⟩
theorem main_1_2 : Claimed_1_2 := own_comes fun _ _ _ _ _ _ h hF => ⟨h.2.1, hF⟩
end Jvm.Pilot.@@N@@
namespace Jvm.Pilot.@@N@@
open Jvm Jvm.ClassFile Sem Op Lib Jvm.Free Jvm.Stand Jvm.Pilot.@@N@@.Jvm.D
/-! MADE BY PROGRAM (witnessworld.py) out of the Statement's table words and the real class files: 20 classes; the members and pool entries that the words name. The judged class is class 1, her method 3. -/
namespace start1
open Jvm.ClassFile
def u (s : String) : CpInfo := .utf8 (stringToUtf16 s)
/-- a pool by its gaps: so many unusable entries, then the entry; so many at the end -/
def gap : Nat → List CpInfo → List CpInfo
  | 0, r => r
  | n + 1, r => .unusable :: gap n r
def poolList (es : List (Nat × CpInfo)) (last : Nat) : List CpInfo := es.foldr (fun e r => gap e.1 (e.2 :: r)) (gap last [])
def pool (es : List (Nat × CpInfo)) (last : Nat) : Array CpInfo := ⟨poolList es last⟩
def fileOf (pool : Array CpInfo) (this : Nat) (attrs : Array Attribute := #[]) (ms : Array MethodInfo := #[]) (fl : Nat := 33) (sup : Nat := 0) (ifs : Array Nat := #[]) (fds : Array FieldInfo := #[]) : ClassFile where
  minorVersion := 0
  majorVersion := 65
  constantPool := pool
  accessFlags := fl
  thisClass := this
  superClass := sup
  interfaces := ifs
  fields := fds
  methods := ms
  attributes := attrs
def plain (name : String) (sup : Option ClassId) : Class where
  name := name
  kind := .ordinary
  loader := none
  accessFlags := 33
  super := sup
  interfaces := #[]
  cf := none
  fields := #[]
  methods := #[]
  instanceTypes := #[]
  staticTypes := #[]
  resolved := #[]
  callSites := []
  init := .initialized
  statics := none
  mirror := none

def pool0 : Array CpInfo := pool [(5, u "<init>"), (0, u "()V"), (1, .class_ 10), (1, u "java/lang/Object")] 113

def k0c0 : Code := { maxStack := 0, maxLocals := 1, code := object_method_1_code, exceptionTable := #[], attributes := #[] }
def k0m0 : Method := { name := "<init>", desc := "()V", sig := { parameters := [], returnType := none }, accessFlags := 1, code := some k0c0 }
/-- java/lang/Object -/
def k0 : Class := { plain "java/lang/Object" none with
  accessFlags := 33
  interfaces := #[]
  cf := some (fileOf pool0 8 #[] #[{ accessFlags := 1, nameIndex := 5, descriptorIndex := 6, attributes := #[] }] 33 0 #[] #[])
  fields := #[]
  methods := #[k0m0]
  instanceTypes := #[]
  staticTypes := #[]
  resolved := Array.replicate 124 none
  statics := none }

def pool1 : Array CpInfo := pool [(2, .class_ 4), (1, u "java/lang/Object"), (0, u "<init>"), (0, u "()V"), (0, .methodref 8 9), (0, .class_ 10), (0, .nameAndType 11 12), (0, u "com/example/scholiast/scholiast/ModsReaderNeedsChildElementPinLaw"), (0, u "nsChars"), (0, u "(I)[C"), (0, .methodref 14 15), (0, .class_ 16), (0, .nameAndType 17 18), (0, u "java/lang/String"), (0, u "valueOf"), (0, u "(C)Ljava/lang/String;"), (0, .methodref 14 20), (0, .nameAndType 5 21), (0, u "([C)V"), (0, .integer 2147483647), (0, .methodref 8 24), (0, .nameAndType 25 12), (0, u "nameChars"), (0, .methodref 27 28), (0, .class_ 29), (0, .nameAndType 30 31), (0, u "com/example/scholiast/scholiast/ModsReader"), (0, u "needsChildElement"), (0, u "(Ljava/lang/String;Ljava/lang/String;)Z"), (3, u "law"), (0, u "(IIIIII)Z")] 4

def k1m0 : Method := { name := "<init>", desc := "()V", sig := { parameters := [], returnType := none }, accessFlags := 2, code := none }
def k1c1 : Code := { maxStack := 4, maxLocals := 1, code := method_2_code, exceptionTable := #[], attributes := #[] }
def k1m1 : Method := { name := "nsChars", desc := "(I)[C", sig := { parameters := [.int], returnType := some (.array .char) }, accessFlags := 10, code := some k1c1 }
def k1c2 : Code := { maxStack := 4, maxLocals := 1, code := method_3_code, exceptionTable := #[], attributes := #[] }
def k1m2 : Method := { name := "nameChars", desc := "(I)[C", sig := { parameters := [.int], returnType := some (.array .char) }, accessFlags := 10, code := some k1c2 }
def k1c3 : Code := { maxStack := 3, maxLocals := 21, code := code, exceptionTable := #[], attributes := #[] }
def k1m3 : Method := { name := "law", desc := "(IIIIII)Z", sig := { parameters := [.int, .int, .int, .int, .int, .int], returnType := some .boolean }, accessFlags := 9, code := some k1c3 }
/-- com/example/scholiast/scholiast/ModsReaderNeedsChildElementPinLaw -/
def k1 : Class := { plain "com/example/scholiast/scholiast/ModsReaderNeedsChildElementPinLaw" (some 0) with
  accessFlags := 49
  interfaces := #[]
  cf := some (fileOf pool1 8 #[] #[{ accessFlags := 2, nameIndex := 5, descriptorIndex := 6, attributes := #[] }, { accessFlags := 10, nameIndex := 11, descriptorIndex := 12, attributes := #[] }, { accessFlags := 10, nameIndex := 25, descriptorIndex := 12, attributes := #[] }, { accessFlags := 9, nameIndex := 35, descriptorIndex := 36, attributes := #[] }] 49 2 #[] #[])
  fields := #[]
  methods := #[k1m0, k1m1, k1m2, k1m3]
  instanceTypes := #[]
  staticTypes := #[]
  resolved := Array.replicate 41 none
  statics := none }

def pool2 : Array CpInfo := pool [(1, .class_ 2), (0, u "java/io/Serializable"), (0, .class_ 4), (0, u "java/lang/Object")] 2

/-- java/io/Serializable -/
def k2 : Class := { plain "java/io/Serializable" (some 0) with
  accessFlags := 1537
  interfaces := #[]
  cf := some (fileOf pool2 1 #[] #[] 1537 3 #[] #[])
  fields := #[]
  methods := #[]
  instanceTypes := #[]
  staticTypes := #[]
  resolved := Array.replicate 7 none
  statics := none }

def pool3 : Array CpInfo := pool [(1, .class_ 2), (0, u "java/lang/Comparable"), (0, .class_ 4), (0, u "java/lang/Object")] 7

/-- java/lang/Comparable -/
def k3 : Class := { plain "java/lang/Comparable" (some 0) with
  accessFlags := 1537
  interfaces := #[]
  cf := some (fileOf pool3 1 #[] #[] 1537 3 #[] #[])
  fields := #[]
  methods := #[]
  instanceTypes := #[]
  staticTypes := #[]
  resolved := Array.replicate 12 none
  statics := none }

def pool4 : Array CpInfo := pool [(2, .class_ 4), (1, u "java/lang/CharSequence"), (42, .class_ 48), (0, u "java/lang/CharSequence$1CodePointIterator"), (10, .class_ 60), (0, u "java/lang/CharSequence$1CharIterator"), (5, .class_ 67), (0, u "java/lang/Object")] 63

/-- java/lang/CharSequence -/
def k4 : Class := { plain "java/lang/CharSequence" (some 0) with
  accessFlags := 1537
  interfaces := #[]
  cf := some (fileOf pool4 2 #[.nestMembers #[47, 59]] #[] 1537 66 #[] #[])
  fields := #[]
  methods := #[]
  instanceTypes := #[]
  staticTypes := #[]
  resolved := Array.replicate 131 none
  statics := none }

def pool5 : Array CpInfo := pool [(1, .class_ 2), (0, u "java/lang/constant/Constable"), (0, .class_ 4), (0, u "java/lang/Object")] 6

/-- java/lang/constant/Constable -/
def k5 : Class := { plain "java/lang/constant/Constable" (some 0) with
  accessFlags := 1537
  interfaces := #[]
  cf := some (fileOf pool5 1 #[] #[] 1537 3 #[] #[])
  fields := #[]
  methods := #[]
  instanceTypes := #[]
  staticTypes := #[]
  resolved := Array.replicate 11 none
  statics := none }

def pool6 : Array CpInfo := pool [(1, .class_ 2), (0, u "java/lang/constant/ConstantDesc"), (0, .class_ 4), (0, u "java/lang/Object")] 32

/-- java/lang/constant/ConstantDesc -/
def k6 : Class := { plain "java/lang/constant/ConstantDesc" (some 0) with
  accessFlags := 1537
  interfaces := #[]
  cf := some (fileOf pool6 1 #[] #[] 1537 3 #[] #[])
  fields := #[]
  methods := #[]
  instanceTypes := #[]
  staticTypes := #[]
  resolved := Array.replicate 37 none
  statics := none }

def pool7 : Array CpInfo := pool [(1, .methodref 2 3), (0, .class_ 4), (0, .nameAndType 5 6), (0, u "java/lang/Object"), (0, u "<init>"), (0, u "()V"), (0, .string 8), (0, u ""), (0, .fieldref 10 11), (0, .class_ 12), (0, .nameAndType 13 14), (0, u "java/lang/String"), (0, u "value"), (0, u "[B"), (0, .fieldref 10 16), (0, .nameAndType 17 18), (0, u "coder"), (0, u "B"), (2, u "hash"), (0, u "I"), (2, u "hashIsZero"), (0, u "Z"), (0, .methodref 10 28), (0, .nameAndType 5 29), (0, u "([CIILjava/lang/Void;)V"), (8, .fieldref 10 39), (0, .nameAndType 40 26), (0, u "COMPACT_STRINGS"), (1, .class_ 44), (1, u "java/lang/StringUTF16"), (0, u "compress"), (1, .methodref 42 48), (0, .nameAndType 49 50), (0, u "coderFromArrayLen"), (0, u "([BI)B"), (2, u "toBytes"), (53, .class_ 109), (1, u "java/lang/StringLatin1"), (67, .methodref 42 178), (0, .nameAndType 45 179), (0, u "([CII)[B"), (29, .methodref 10 210), (0, .nameAndType 5 211), (0, u "([BB)V"), (157, u "(C)Z"), (171, .methodref 107 542), (0, .nameAndType 543 544), (0, u "equals"), (0, u "([B[B)Z"), (28, u "(Ljava/lang/Object;)Z"), (1, .class_ 576), (0, u "java/lang/CharSequence"), (22, u "CASE_INSENSITIVE_ORDER"), (0, u "Ljava/util/Comparator;"), (181, u "valueOf"), (0, u "(C)Ljava/lang/String;"), (226, u "([C)V"), (4, .methodref 107 1016), (0, .nameAndType 1017 369), (0, u "canEncode"), (0, .methodref 107 1019), (0, .nameAndType 53 1020), (0, u "(C)[B"), (80, u "serialPersistentFields"), (0, u "[Ljava/io/ObjectStreamField;"), (0, .class_ 1104), (0, u "java/lang/String$CaseInsensitiveComparator"), (1, .class_ 1107), (0, u "java/io/Serializable"), (0, .class_ 1109), (0, u "java/lang/Comparable"), (0, .class_ 1111), (0, u "java/lang/constant/Constable"), (0, .class_ 1113), (0, u "java/lang/constant/ConstantDesc"), (2, u "serialVersionUID"), (0, u "J"), (3, u "REPL"), (0, u "C"), (2, u "LATIN1"), (1, u "UTF16")] 323

def k7m0 : Method := { name := "<init>", desc := "()V", sig := { parameters := [], returnType := none }, accessFlags := 1, code := none }
def k7c1 : Code := { maxStack := 5, maxLocals := 2, code := jdk_42_method_3_code, exceptionTable := #[], attributes := #[] }
def k7m1 : Method := { name := "<init>", desc := "([C)V", sig := { parameters := [(.array .char)], returnType := none }, accessFlags := 1, code := some k7c1 }
def k7c2 : Code := { maxStack := 2, maxLocals := 3, code := jdk_42_method_66_code, exceptionTable := #[], attributes := #[] }
def k7m2 : Method := { name := "equals", desc := "(Ljava/lang/Object;)Z", sig := { parameters := [(.object "java/lang/Object")], returnType := some .boolean }, accessFlags := 1, code := some k7c2 }
def k7c3 : Code := { maxStack := 4, maxLocals := 1, code := jdk_42_method_139_code, exceptionTable := #[], attributes := #[] }
def k7m3 : Method := { name := "valueOf", desc := "(C)Ljava/lang/String;", sig := { parameters := [.char], returnType := some (.object "java/lang/String") }, accessFlags := 9, code := some k7c3 }
def k7c4 : Code := { maxStack := 4, maxLocals := 6, code := jdk_42_method_149_code, exceptionTable := #[], attributes := #[] }
def k7m4 : Method := { name := "<init>", desc := "([CIILjava/lang/Void;)V", sig := { parameters := [(.array .char), .int, .int, (.object "java/lang/Void")], returnType := none }, accessFlags := 2, code := some k7c4 }
def k7c5 : Code := { maxStack := 2, maxLocals := 3, code := jdk_42_method_151_code, exceptionTable := #[], attributes := #[] }
def k7m5 : Method := { name := "<init>", desc := "([BB)V", sig := { parameters := [(.array .byte), .byte], returnType := none }, accessFlags := 0, code := some k7c5 }
/-- java/lang/String -/
def k7 : Class := { plain "java/lang/String" (some 0) with
  accessFlags := 49
  interfaces := #[2, 3, 4, 5, 6]
  cf := some (fileOf pool7 10 #[.nestMembers #[1103]] #[{ accessFlags := 1, nameIndex := 5, descriptorIndex := 6, attributes := #[] }, { accessFlags := 1, nameIndex := 5, descriptorIndex := 1010, attributes := #[] }, { accessFlags := 1, nameIndex := 543, descriptorIndex := 573, attributes := #[] }, { accessFlags := 9, nameIndex := 782, descriptorIndex := 783, attributes := #[] }, { accessFlags := 2, nameIndex := 5, descriptorIndex := 29, attributes := #[] }, { accessFlags := 0, nameIndex := 5, descriptorIndex := 211, attributes := #[] }] 49 2 #[1106, 1108, 575, 1110, 1112] #[{ accessFlags := 18, nameIndex := 13, descriptorIndex := 14, attributes := #[] }, { accessFlags := 18, nameIndex := 17, descriptorIndex := 18, attributes := #[] }, { accessFlags := 2, nameIndex := 21, descriptorIndex := 22, attributes := #[] }, { accessFlags := 2, nameIndex := 25, descriptorIndex := 26, attributes := #[] }, { accessFlags := 26, nameIndex := 1116, descriptorIndex := 1117, attributes := #[] }, { accessFlags := 24, nameIndex := 40, descriptorIndex := 26, attributes := #[] }, { accessFlags := 26, nameIndex := 1101, descriptorIndex := 1102, attributes := #[] }, { accessFlags := 26, nameIndex := 1121, descriptorIndex := 1122, attributes := #[] }, { accessFlags := 25, nameIndex := 599, descriptorIndex := 600, attributes := #[] }, { accessFlags := 24, nameIndex := 1125, descriptorIndex := 18, attributes := #[] }, { accessFlags := 24, nameIndex := 1127, descriptorIndex := 18, attributes := #[] }])
  fields := #[{ name := "value", type := (.array .byte), accessFlags := 18, slot := 0, constantValue := 0 }, { name := "coder", type := .byte, accessFlags := 18, slot := 1, constantValue := 0 }, { name := "hash", type := .int, accessFlags := 2, slot := 2, constantValue := 0 }, { name := "hashIsZero", type := .boolean, accessFlags := 2, slot := 3, constantValue := 0 }, { name := "serialVersionUID", type := .long, accessFlags := 26, slot := 0, constantValue := 0 }, { name := "COMPACT_STRINGS", type := .boolean, accessFlags := 24, slot := 1, constantValue := 0 }, { name := "serialPersistentFields", type := (.array (.object "java/io/ObjectStreamField")), accessFlags := 26, slot := 2, constantValue := 0 }, { name := "REPL", type := .char, accessFlags := 26, slot := 3, constantValue := 0 }, { name := "CASE_INSENSITIVE_ORDER", type := (.object "java/util/Comparator"), accessFlags := 25, slot := 4, constantValue := 0 }, { name := "LATIN1", type := .byte, accessFlags := 24, slot := 5, constantValue := 0 }, { name := "UTF16", type := .byte, accessFlags := 24, slot := 6, constantValue := 0 }]
  methods := #[k7m0, k7m1, k7m2, k7m3, k7m4, k7m5]
  instanceTypes := #[(.array .byte), .byte, .int, .boolean]
  staticTypes := #[.long, .boolean, (.array (.object "java/io/ObjectStreamField")), .char, (.object "java/util/Comparator"), .byte, .byte]
  resolved := Array.replicate 1451 none
  statics := some 0 }

def pool8 : Array CpInfo := pool [(6, .class_ 8), (1, u "java/lang/Object"), (0, u "<init>"), (0, u "()V"), (1, .class_ 14), (1, u "java/lang/StringUTF16"), (31, u "$assertionsDisabled"), (0, u "Z"), (13, u "HI_BYTE_SHIFT"), (0, u "I"), (2, u "LO_BYTE_SHIFT"), (49, .methodref 12 116), (0, .nameAndType 117 118), (0, u "compress"), (0, u "([CI[BII)I"), (3, u "([CII)[B"), (138, u "coderFromArrayLen"), (0, u "([BI)B"), (106, .class_ 371), (1, u "java/lang/StringUTF16$LinesSpliterator"), (58, u "MAX_LENGTH"), (196, .class_ 628), (0, u "java/lang/StringUTF16$CodePointsSpliterator"), (0, .class_ 630), (0, u "java/lang/StringUTF16$CharsSpliterator")] 4

def k8m0 : Method := { name := "<init>", desc := "()V", sig := { parameters := [], returnType := none }, accessFlags := 0, code := none }
def k8c1 : Code := { maxStack := 2, maxLocals := 2, code := jdk_52_method_15_code, exceptionTable := #[], attributes := #[] }
def k8m1 : Method := { name := "coderFromArrayLen", desc := "([BI)B", sig := { parameters := [(.array .byte), .int], returnType := some .byte }, accessFlags := 8, code := some k8c1 }
def k8c2 : Code := { maxStack := 5, maxLocals := 6, code := jdk_52_method_16_code, exceptionTable := #[], attributes := #[] }
def k8m2 : Method := { name := "compress", desc := "([CII)[B", sig := { parameters := [(.array .char), .int, .int], returnType := some (.array .byte) }, accessFlags := 9, code := some k8c2 }
def k8c3 : Code := { maxStack := 3, maxLocals := 7, code := jdk_52_method_21_code, exceptionTable := #[], attributes := #[] }
def k8m3 : Method := { name := "compress", desc := "([CI[BII)I", sig := { parameters := [(.array .char), .int, (.array .byte), .int, .int], returnType := some .int }, accessFlags := 9, code := some k8c3 }
/-- java/lang/StringUTF16 -/
def k8 : Class := { plain "java/lang/StringUTF16" (some 0) with
  accessFlags := 48
  interfaces := #[]
  cf := some (fileOf pool8 12 #[.nestMembers #[627, 629, 369]] #[{ accessFlags := 0, nameIndex := 9, descriptorIndex := 10, attributes := #[] }, { accessFlags := 8, nameIndex := 261, descriptorIndex := 262, attributes := #[] }, { accessFlags := 9, nameIndex := 117, descriptorIndex := 122, attributes := #[] }, { accessFlags := 9, nameIndex := 117, descriptorIndex := 118, attributes := #[] }] 48 6 #[] #[{ accessFlags := 26, nameIndex := 61, descriptorIndex := 62, attributes := #[] }, { accessFlags := 26, nameIndex := 65, descriptorIndex := 62, attributes := #[] }, { accessFlags := 24, nameIndex := 430, descriptorIndex := 62, attributes := #[] }, { accessFlags := 4120, nameIndex := 46, descriptorIndex := 47, attributes := #[] }])
  fields := #[{ name := "HI_BYTE_SHIFT", type := .int, accessFlags := 26, slot := 0, constantValue := 0 }, { name := "LO_BYTE_SHIFT", type := .int, accessFlags := 26, slot := 1, constantValue := 0 }, { name := "MAX_LENGTH", type := .int, accessFlags := 24, slot := 2, constantValue := 0 }, { name := "$assertionsDisabled", type := .boolean, accessFlags := 4120, slot := 3, constantValue := 0 }]
  methods := #[k8m0, k8m1, k8m2, k8m3]
  instanceTypes := #[]
  staticTypes := #[.int, .int, .int, .boolean]
  resolved := Array.replicate 635 none
  statics := none }

def pool9 : Array CpInfo := pool [(4, .class_ 6), (1, u "java/lang/Object"), (6, .class_ 15), (1, u "com/example/scholiast/scholiast/ModsReader"), (0, u "path"), (0, u "Ljava/util/List;"), (2, u "foldedPieces"), (2, u "folded"), (0, u "[B"), (2, u "xml"), (0, u "Lcom/example/scholiast/scholiast/XmlReader;"), (2, u "listener"), (0, u "Lcom/example/scholiast/scholiast/ModsReader$Listener;"), (8, .class_ 43), (1, u "com/example/scholiast/scholiast/ModsReader$Listener"), (7, .class_ 53), (1, u "com/example/scholiast/scholiast/ModsReader$1"), (25, .string 80), (0, u "http://www.loc.gov/mods/v3"), (0, .methodref 82 83), (0, .class_ 84), (0, .nameAndType 85 86), (0, u "java/lang/String"), (0, u "equals"), (0, u "(Ljava/lang/Object;)Z"), (0, .string 88), (0, u "mods"), (0, .string 90), (0, u "physicalDescription"), (0, .string 92), (0, u "http://www.openarchives.org/OAI/2.0/"), (0, .string 94), (0, u "metadata"), (0, .string 96), (0, u "about"), (2, u "records"), (0, u "J"), (2, u "deleted"), (12, u "rootSeen"), (0, u "Z"), (8, u "inRecord"), (24, u "deletedOaiRecord"), (0, u "I"), (2, u "oaiRecords"), (59, u "foldedLength"), (2, u "spaceOwed"), (83, u "MODS_NAMESPACE"), (0, u "Ljava/lang/String;"), (1, u "OAI_PMH_NAMESPACE"), (0, u "XLINK_NAMESPACE"), (2, u "FOLDED_PIECE"), (11, u "needsChildElement"), (0, u "(Ljava/lang/String;Ljava/lang/String;)Z")] 26

def k9c0 : Code := { maxStack := 2, maxLocals := 2, code := prog_22_method_4_code, exceptionTable := #[], attributes := #[] }
def k9m0 : Method := { name := "needsChildElement", desc := "(Ljava/lang/String;Ljava/lang/String;)Z", sig := { parameters := [(.object "java/lang/String"), (.object "java/lang/String")], returnType := some .boolean }, accessFlags := 8, code := some k9c0 }
/-- com/example/scholiast/scholiast/ModsReader -/
def k9 : Class := { plain "com/example/scholiast/scholiast/ModsReader" (some 0) with
  accessFlags := 48
  interfaces := #[]
  cf := some (fileOf pool9 13 #[.nestMembers #[51, 41]] #[{ accessFlags := 8, nameIndex := 321, descriptorIndex := 322, attributes := #[] }] 48 4 #[] #[{ accessFlags := 24, nameIndex := 302, descriptorIndex := 303, attributes := #[] }, { accessFlags := 24, nameIndex := 305, descriptorIndex := 303, attributes := #[] }, { accessFlags := 24, nameIndex := 306, descriptorIndex := 303, attributes := #[] }, { accessFlags := 18, nameIndex := 27, descriptorIndex := 28, attributes := #[] }, { accessFlags := 18, nameIndex := 31, descriptorIndex := 32, attributes := #[] }, { accessFlags := 18, nameIndex := 16, descriptorIndex := 17, attributes := #[] }, { accessFlags := 2, nameIndex := 116, descriptorIndex := 117, attributes := #[] }, { accessFlags := 2, nameIndex := 126, descriptorIndex := 117, attributes := #[] }, { accessFlags := 2, nameIndex := 155, descriptorIndex := 152, attributes := #[] }, { accessFlags := 2, nameIndex := 151, descriptorIndex := 152, attributes := #[] }, { accessFlags := 2, nameIndex := 99, descriptorIndex := 100, attributes := #[] }, { accessFlags := 26, nameIndex := 309, descriptorIndex := 152, attributes := #[] }, { accessFlags := 18, nameIndex := 20, descriptorIndex := 17, attributes := #[] }, { accessFlags := 2, nameIndex := 23, descriptorIndex := 24, attributes := #[] }, { accessFlags := 2, nameIndex := 215, descriptorIndex := 152, attributes := #[] }, { accessFlags := 2, nameIndex := 218, descriptorIndex := 117, attributes := #[] }, { accessFlags := 2, nameIndex := 103, descriptorIndex := 100, attributes := #[] }])
  fields := #[{ name := "MODS_NAMESPACE", type := (.object "java/lang/String"), accessFlags := 24, slot := 0, constantValue := 0 }, { name := "OAI_PMH_NAMESPACE", type := (.object "java/lang/String"), accessFlags := 24, slot := 1, constantValue := 0 }, { name := "XLINK_NAMESPACE", type := (.object "java/lang/String"), accessFlags := 24, slot := 2, constantValue := 0 }, { name := "xml", type := (.object "com/example/scholiast/scholiast/XmlReader"), accessFlags := 18, slot := 0, constantValue := 0 }, { name := "listener", type := (.object "com/example/scholiast/scholiast/ModsReader$Listener"), accessFlags := 18, slot := 1, constantValue := 0 }, { name := "path", type := (.object "java/util/List"), accessFlags := 18, slot := 2, constantValue := 0 }, { name := "rootSeen", type := .boolean, accessFlags := 2, slot := 3, constantValue := 0 }, { name := "inRecord", type := .boolean, accessFlags := 2, slot := 4, constantValue := 0 }, { name := "oaiRecords", type := .int, accessFlags := 2, slot := 5, constantValue := 0 }, { name := "deletedOaiRecord", type := .int, accessFlags := 2, slot := 6, constantValue := 0 }, { name := "records", type := .long, accessFlags := 2, slot := 7, constantValue := 0 }, { name := "FOLDED_PIECE", type := .int, accessFlags := 26, slot := 3, constantValue := 0 }, { name := "foldedPieces", type := (.object "java/util/List"), accessFlags := 18, slot := 8, constantValue := 0 }, { name := "folded", type := (.array .byte), accessFlags := 2, slot := 9, constantValue := 0 }, { name := "foldedLength", type := .int, accessFlags := 2, slot := 10, constantValue := 0 }, { name := "spaceOwed", type := .boolean, accessFlags := 2, slot := 11, constantValue := 0 }, { name := "deleted", type := .long, accessFlags := 2, slot := 12, constantValue := 0 }]
  methods := #[k9m0]
  instanceTypes := #[(.object "com/example/scholiast/scholiast/XmlReader"), (.object "com/example/scholiast/scholiast/ModsReader$Listener"), (.object "java/util/List"), .boolean, .boolean, .int, .int, .long, (.object "java/util/List"), (.array .byte), .int, .boolean, .long]
  staticTypes := #[(.object "java/lang/String"), (.object "java/lang/String"), (.object "java/lang/String"), .int]
  resolved := Array.replicate 349 none
  statics := none }

def pool10 : Array CpInfo := pool [(4, .class_ 6), (1, u "java/lang/Object"), (0, u "<init>"), (0, u "()V"), (5, .class_ 16), (1, u "java/lang/StringLatin1"), (73, u "canEncode"), (14, u "(C)Z"), (15, u "$assertionsDisabled"), (0, u "Z"), (98, .class_ 223), (1, u "java/lang/StringLatin1$LinesSpliterator"), (57, u "equals"), (0, u "([B[B)Z"), (97, u "toBytes"), (1, u "(C)[B"), (7, .class_ 391), (0, u "java/lang/StringLatin1$CharsSpliterator")] 3

def k10m0 : Method := { name := "<init>", desc := "()V", sig := { parameters := [], returnType := none }, accessFlags := 0, code := none }
def k10c1 : Code := { maxStack := 2, maxLocals := 1, code := jdk_43_method_3_code, exceptionTable := #[], attributes := #[] }
def k10m1 : Method := { name := "canEncode", desc := "(C)Z", sig := { parameters := [.char], returnType := some .boolean }, accessFlags := 9, code := some k10c1 }
def k10c2 : Code := { maxStack := 3, maxLocals := 3, code := jdk_43_method_13_code, exceptionTable := #[], attributes := #[] }
def k10m2 : Method := { name := "equals", desc := "([B[B)Z", sig := { parameters := [(.array .byte), (.array .byte)], returnType := some .boolean }, accessFlags := 9, code := some k10c2 }
def k10c3 : Code := { maxStack := 4, maxLocals := 1, code := jdk_43_method_46_code, exceptionTable := #[], attributes := #[] }
def k10m3 : Method := { name := "toBytes", desc := "(C)[B", sig := { parameters := [.char], returnType := some (.array .byte) }, accessFlags := 9, code := some k10c3 }
/-- java/lang/StringLatin1 -/
def k10 : Class := { plain "java/lang/StringLatin1" (some 0) with
  accessFlags := 48
  interfaces := #[]
  cf := some (fileOf pool10 14 #[.nestMembers #[390, 221]] #[{ accessFlags := 0, nameIndex := 7, descriptorIndex := 8, attributes := #[] }, { accessFlags := 9, nameIndex := 90, descriptorIndex := 105, attributes := #[] }, { accessFlags := 9, nameIndex := 281, descriptorIndex := 282, attributes := #[] }, { accessFlags := 9, nameIndex := 380, descriptorIndex := 382, attributes := #[] }] 48 4 #[] #[{ accessFlags := 4120, nameIndex := 121, descriptorIndex := 122, attributes := #[] }])
  fields := #[{ name := "$assertionsDisabled", type := .boolean, accessFlags := 4120, slot := 0, constantValue := 0 }]
  methods := #[k10m0, k10m1, k10m2, k10m3]
  instanceTypes := #[]
  staticTypes := #[.boolean]
  resolved := Array.replicate 395 none
  statics := none }

def pool11 : Array CpInfo := pool [(2, .class_ 4), (1, u "java/lang/Object"), (0, u "<init>"), (0, u "()V"), (17, .class_ 26), (1, u "jdk/internal/util/Preconditions"), (28, .class_ 56), (0, u "jdk/internal/util/Preconditions$4"), (57, .class_ 115), (0, u "jdk/internal/util/Preconditions$1"), (7, u "SIOOBE_FORMATTER"), (0, u "Ljava/util/function/BiFunction;"), (0, .class_ 126), (0, u "jdk/internal/util/Preconditions$2"), (3, u "AIOOBE_FORMATTER"), (0, .class_ 132), (0, u "jdk/internal/util/Preconditions$3"), (3, u "IOOBE_FORMATTER")] 57

def k11m0 : Method := { name := "<init>", desc := "()V", sig := { parameters := [], returnType := none }, accessFlags := 1, code := none }
/-- jdk/internal/util/Preconditions -/
def k11 : Class := { plain "jdk/internal/util/Preconditions" (some 0) with
  accessFlags := 33
  interfaces := #[]
  cf := some (fileOf pool11 24 #[.nestMembers #[55, 131, 125, 114]] #[{ accessFlags := 1, nameIndex := 5, descriptorIndex := 6, attributes := #[] }] 33 2 #[] #[{ accessFlags := 25, nameIndex := 123, descriptorIndex := 124, attributes := #[] }, { accessFlags := 25, nameIndex := 130, descriptorIndex := 124, attributes := #[] }, { accessFlags := 25, nameIndex := 136, descriptorIndex := 124, attributes := #[] }])
  fields := #[{ name := "SIOOBE_FORMATTER", type := (.object "java/util/function/BiFunction"), accessFlags := 25, slot := 0, constantValue := 0 }, { name := "AIOOBE_FORMATTER", type := (.object "java/util/function/BiFunction"), accessFlags := 25, slot := 1, constantValue := 0 }, { name := "IOOBE_FORMATTER", type := (.object "java/util/function/BiFunction"), accessFlags := 25, slot := 2, constantValue := 0 }]
  methods := #[k11m0]
  instanceTypes := #[]
  staticTypes := #[(.object "java/util/function/BiFunction"), (.object "java/util/function/BiFunction"), (.object "java/util/function/BiFunction")]
  resolved := Array.replicate 194 none
  statics := some 1 }

def pool12 : Array CpInfo := pool [(9, u "<init>"), (6, .class_ 18), (1, u "java/lang/Object"), (0, u "()V"), (1, .class_ 23), (1, u "jdk/internal/util/ArraysSupport"), (0, u "LOG2_ARRAY_LONG_INDEX_SCALE"), (0, u "I"), (2, u "U"), (0, u "Ljdk/internal/misc/Unsafe;"), (8, u "BIG_ENDIAN"), (0, u "Z"), (8, u "LOG2_BYTE_BIT_SIZE"), (4, u "LOG2_ARRAY_INT_INDEX_SCALE"), (54, u "JLA"), (0, u "Ljdk/internal/access/JavaLangAccess;"), (11, u "LOG2_ARRAY_BOOLEAN_INDEX_SCALE"), (9, u "LOG2_ARRAY_BYTE_INDEX_SCALE"), (5, u "LOG2_ARRAY_CHAR_INDEX_SCALE"), (5, u "LOG2_ARRAY_SHORT_INDEX_SCALE"), (18, u "LOG2_ARRAY_FLOAT_INDEX_SCALE"), (24, u "LOG2_ARRAY_DOUBLE_INDEX_SCALE"), (89, u "T_BOOLEAN"), (2, u "T_CHAR"), (1, u "T_FLOAT"), (1, u "T_DOUBLE"), (1, u "T_BYTE"), (1, u "T_SHORT"), (1, u "T_INT"), (1, u "T_LONG"), (1, u "SOFT_MAX_ARRAY_LENGTH")] 83

def k12m0 : Method := { name := "<init>", desc := "()V", sig := { parameters := [], returnType := none }, accessFlags := 2, code := none }
/-- jdk/internal/util/ArraysSupport -/
def k12 : Class := { plain "jdk/internal/util/ArraysSupport" (some 0) with
  accessFlags := 33
  interfaces := #[]
  cf := some (fileOf pool12 21 #[] #[{ accessFlags := 2, nameIndex := 9, descriptorIndex := 19, attributes := #[] }] 33 16 #[] #[{ accessFlags := 24, nameIndex := 28, descriptorIndex := 29, attributes := #[] }, { accessFlags := 26, nameIndex := 38, descriptorIndex := 39, attributes := #[] }, { accessFlags := 25, nameIndex := 121, descriptorIndex := 25, attributes := #[] }, { accessFlags := 25, nameIndex := 131, descriptorIndex := 25, attributes := #[] }, { accessFlags := 25, nameIndex := 137, descriptorIndex := 25, attributes := #[] }, { accessFlags := 25, nameIndex := 143, descriptorIndex := 25, attributes := #[] }, { accessFlags := 25, nameIndex := 53, descriptorIndex := 25, attributes := #[] }, { accessFlags := 25, nameIndex := 24, descriptorIndex := 25, attributes := #[] }, { accessFlags := 25, nameIndex := 162, descriptorIndex := 25, attributes := #[] }, { accessFlags := 25, nameIndex := 187, descriptorIndex := 25, attributes := #[] }, { accessFlags := 26, nameIndex := 48, descriptorIndex := 25, attributes := #[] }, { accessFlags := 25, nameIndex := 277, descriptorIndex := 25, attributes := #[] }, { accessFlags := 25, nameIndex := 280, descriptorIndex := 25, attributes := #[] }, { accessFlags := 25, nameIndex := 282, descriptorIndex := 25, attributes := #[] }, { accessFlags := 25, nameIndex := 284, descriptorIndex := 25, attributes := #[] }, { accessFlags := 25, nameIndex := 286, descriptorIndex := 25, attributes := #[] }, { accessFlags := 25, nameIndex := 288, descriptorIndex := 25, attributes := #[] }, { accessFlags := 25, nameIndex := 290, descriptorIndex := 25, attributes := #[] }, { accessFlags := 25, nameIndex := 292, descriptorIndex := 25, attributes := #[] }, { accessFlags := 26, nameIndex := 108, descriptorIndex := 109, attributes := #[] }, { accessFlags := 25, nameIndex := 294, descriptorIndex := 25, attributes := #[] }])
  fields := #[{ name := "U", type := (.object "jdk/internal/misc/Unsafe"), accessFlags := 24, slot := 0, constantValue := 0 }, { name := "BIG_ENDIAN", type := .boolean, accessFlags := 26, slot := 1, constantValue := 0 }, { name := "LOG2_ARRAY_BOOLEAN_INDEX_SCALE", type := .int, accessFlags := 25, slot := 2, constantValue := 0 }, { name := "LOG2_ARRAY_BYTE_INDEX_SCALE", type := .int, accessFlags := 25, slot := 3, constantValue := 0 }, { name := "LOG2_ARRAY_CHAR_INDEX_SCALE", type := .int, accessFlags := 25, slot := 4, constantValue := 0 }, { name := "LOG2_ARRAY_SHORT_INDEX_SCALE", type := .int, accessFlags := 25, slot := 5, constantValue := 0 }, { name := "LOG2_ARRAY_INT_INDEX_SCALE", type := .int, accessFlags := 25, slot := 6, constantValue := 0 }, { name := "LOG2_ARRAY_LONG_INDEX_SCALE", type := .int, accessFlags := 25, slot := 7, constantValue := 0 }, { name := "LOG2_ARRAY_FLOAT_INDEX_SCALE", type := .int, accessFlags := 25, slot := 8, constantValue := 0 }, { name := "LOG2_ARRAY_DOUBLE_INDEX_SCALE", type := .int, accessFlags := 25, slot := 9, constantValue := 0 }, { name := "LOG2_BYTE_BIT_SIZE", type := .int, accessFlags := 26, slot := 10, constantValue := 0 }, { name := "T_BOOLEAN", type := .int, accessFlags := 25, slot := 11, constantValue := 0 }, { name := "T_CHAR", type := .int, accessFlags := 25, slot := 12, constantValue := 0 }, { name := "T_FLOAT", type := .int, accessFlags := 25, slot := 13, constantValue := 0 }, { name := "T_DOUBLE", type := .int, accessFlags := 25, slot := 14, constantValue := 0 }, { name := "T_BYTE", type := .int, accessFlags := 25, slot := 15, constantValue := 0 }, { name := "T_SHORT", type := .int, accessFlags := 25, slot := 16, constantValue := 0 }, { name := "T_INT", type := .int, accessFlags := 25, slot := 17, constantValue := 0 }, { name := "T_LONG", type := .int, accessFlags := 25, slot := 18, constantValue := 0 }, { name := "JLA", type := (.object "jdk/internal/access/JavaLangAccess"), accessFlags := 26, slot := 19, constantValue := 0 }, { name := "SOFT_MAX_ARRAY_LENGTH", type := .int, accessFlags := 25, slot := 20, constantValue := 0 }]
  methods := #[k12m0]
  instanceTypes := #[]
  staticTypes := #[(.object "jdk/internal/misc/Unsafe"), .boolean, .int, .int, .int, .int, .int, .int, .int, .int, .int, .int, .int, .int, .int, .int, .int, .int, .int, (.object "jdk/internal/access/JavaLangAccess"), .int]
  resolved := Array.replicate 378 none
  statics := none }

def pool13 : Array CpInfo := pool [(1, u "java/lang/Cloneable"), (0, .class_ 1), (0, u "java/lang/Object"), (0, .class_ 3)] 3

/-- java/lang/Cloneable -/
def k13 : Class := { plain "java/lang/Cloneable" (some 0) with
  accessFlags := 1537
  interfaces := #[]
  cf := some (fileOf pool13 2 #[] #[] 1537 4 #[] #[])
  fields := #[]
  methods := #[]
  instanceTypes := #[]
  staticTypes := #[]
  resolved := Array.replicate 8 none
  statics := none }

/-- the primitive byte -/
def k14 : Class := { plain "byte" none with kind := .primitive 'B', accessFlags := 0x411 }
/-- [B -/
def k15 : Class := { plain "[B" (some 0) with kind := .array 14 .byte, interfaces := #[13, 2], accessFlags := 1041 }

/-- the primitive char -/
def k16 : Class := { plain "char" none with kind := .primitive 'C', accessFlags := 0x411 }
/-- [C -/
def k17 : Class := { plain "[C" (some 0) with kind := .array 16 .char, interfaces := #[13, 2], accessFlags := 1041 }

/-- the primitive int -/
def k18 : Class := { plain "int" none with kind := .primitive 'I', accessFlags := 0x411 }
/-- [I -/
def k19 : Class := { plain "[I" (some 0) with kind := .array 18 .int, interfaces := #[13, 2], accessFlags := 1041 }

def heap : Heap := #[{ cls := 7, slots := #[.long 0, .int 1, .null, .int 0, .null, .int 0, .int 0], vm := .statics 7 },
  { cls := 11, slots := #[.null, .null, .null], vm := .statics 11 }]
def classes : Array Class := #[k0, k1, k2, k3, k4, k5, k6, k7, k8, k9, k10, k11, k12, k13, k14, k15, k16, k17, k18, k19]
def interned : List (Array UInt16 × Addr) := []
def slotsUsed : Nat := 10
def theMethod : MethodId := ⟨1, 3⟩
def args0 : Array Value := #[.int 5, .int 1, .int 3, .int 4, .int 4, .int 4]
def aboutOver (below : List Frame) : State where
  vm := { classes := classes, interned := interned.toArray }
  heap := heap
  slotsUsed := slotsUsed
  threads := #[{ frames := .invoking theMethod args0 :: below }]
def below0 : List Frame := [.native { method := ⟨0, 0⟩, args := #[] }]
def about1 : State := aboutOver below0
def p0 : Program := .bare "" "" ""
def e0 : Env := launch0.env 0 0 0
theorem w_frames : about1.frames = Frame.invoking theMethod args0 :: below0 := rfl
set_option maxRecDepth 65536 in
theorem w_args : argsFit about1.vm theMethod args0 = true := by decide +kernel
set_option maxRecDepth 65536 in
theorem w_heap : heapFits about1 = true := by decide +kernel
set_option maxRecDepth 65536 in
theorem w_runnable : about1.curStatus? = some .runnable := by decide +kernel
set_option maxRecDepth 65536 in
theorem w_alone : about1.alone = true := by decide +kernel
set_option maxRecDepth 65536 in
theorem w_named : about1.methodNamed? x = some theMethod := by decide +kernel
set_option maxRecDepth 65536 in
theorem w_hears : about1.hears theMethod below0 = true := by decide +kernel
set_option maxRecDepth 65536 in
theorem w_ripe : about1.ripe theMethod args0 below0 = true := by decide +kernel
theorem w_running : about1.status = .running := rfl
set_option maxRecDepth 65536 in
theorem w_room : about1.hasRoom e0.platform room_1 = true :=
  launch0.hasRoom_least _ room_1 (by decide +kernel) (by decide +kernel) (by decide +kernel) (by decide +kernel) (by decide +kernel) (by decide +kernel)
theorem allAtoms_all (ts : List Jvm.Cond) (a : Array Jvm.Value) (st : Jvm.State) : (allAtoms ts).before a st = ts.all (fun c => c.before a st) := by
  induction ts with
  | nil => rfl
  | cons c t ih =>
    show (Jvm.Cond.and c (allAtoms t)).before a st = _
    rw [Jvm.Cond.before_and, ih, List.all_cons]
def words1 : List Jvm.Cond := Jvm.Cond.code x code maxLocals ret :: tables_1
/-- a 'code' word, met by the world's own term for the bytes: nothing is compared byte by byte -/
theorem code_word {y : MethodName} {bytes : ByteArray} {mx : Nat} {rt : Option FieldType} {a : Array Value} {s : State} {m : MethodId} {meth : Method} {c : Code} (h1 : s.methodNamed? y = some m) (h2 : s.vm.method? m = some meth) (h3 : meth.code = some c) (h4 : c.code = bytes)
    (h5 : (c.maxLocals == mx && c.exceptionTable.isEmpty && decide (c.maxStack ≤ mostOperands) && decide (meth.sig.returnType = rt) && !meth.locks && decide (parseMethodDescriptor y.desc = some meth.sig)) = true) : (Jvm.Cond.code y bytes mx rt).before a s = true := by
  simp only [Bool.and_eq_true, beq_iff_eq, Bool.not_eq_true', decide_eq_true_eq] at h5
  obtain ⟨⟨⟨⟨⟨g1, g2⟩, g3⟩, g4⟩, g5⟩, g6⟩ := h5
  simp [Cond.before, Cond.holds, Cond.value, h1, h2, h3, h4, g1, g2, g3, g4, g5, g6]
def isCode : Jvm.Cond → Bool
  | .code _ _ _ _ => true
  | _ => false
theorem all_split {L : List Jvm.Cond} {P : Jvm.Cond → Bool} (h1 : L.all (fun c => isCode c || P c) = true) (h2 : ∀ c ∈ L.filter isCode, P c = true) : L.all P = true := by
  refine List.all_eq_true.mpr fun c hc => ?_
  have h := List.all_eq_true.mp h1 c hc
  rcases Bool.eq_false_or_eq_true (isCode c) with hi | hi
  · exact h2 c (List.mem_filter.mpr ⟨hc, hi⟩)
  · simpa [hi] using h
set_option maxRecDepth 65536 in
theorem w_c0 : (Jvm.Cond.code x code maxLocals ret).before args0 about1 = true := code_word (m := ⟨1, 3⟩) (meth := k1m3) (c := k1c3) (by decide +kernel) rfl rfl rfl (by decide +kernel)
set_option maxRecDepth 65536 in
theorem w_c1 : (Jvm.Cond.code ({ cls := "com/example/scholiast/scholiast/ModsReaderNeedsChildElementPinLaw", name := "nsChars", desc := "(I)[C" } : Jvm.MethodName) method_2_code (1 : Nat) (Option.some (Jvm.ClassFile.FieldType.array Jvm.ClassFile.FieldType.char))).before args0 about1 = true := code_word (m := ⟨1, 1⟩) (meth := k1m1) (c := k1c1) (by decide +kernel) rfl rfl rfl (by decide +kernel)
set_option maxRecDepth 65536 in
theorem w_c2 : (Jvm.Cond.code ({ cls := "java/lang/String", name := "<init>", desc := "([C)V" } : Jvm.MethodName) jdk_42_method_3_code (2 : Nat) (Option.none : Option Jvm.ClassFile.FieldType)).before args0 about1 = true := code_word (m := ⟨7, 1⟩) (meth := k7m1) (c := k7c1) (by decide +kernel) rfl rfl rfl (by decide +kernel)
set_option maxRecDepth 65536 in
theorem w_c3 : (Jvm.Cond.code ({ cls := "java/lang/String", name := "<init>", desc := "([CIILjava/lang/Void;)V" } : Jvm.MethodName) jdk_42_method_149_code (6 : Nat) (Option.none : Option Jvm.ClassFile.FieldType)).before args0 about1 = true := code_word (m := ⟨7, 4⟩) (meth := k7m4) (c := k7c4) (by decide +kernel) rfl rfl rfl (by decide +kernel)
set_option maxRecDepth 65536 in
theorem w_c4 : (Jvm.Cond.code ({ cls := "java/lang/Object", name := "<init>", desc := "()V" } : Jvm.MethodName) object_method_1_code (1 : Nat) (Option.none : Option Jvm.ClassFile.FieldType)).before args0 about1 = true := code_word (m := ⟨0, 0⟩) (meth := k0m0) (c := k0c0) (by decide +kernel) rfl rfl rfl (by decide +kernel)
set_option maxRecDepth 65536 in
theorem w_c5 : (Jvm.Cond.code ({ cls := "java/lang/StringUTF16", name := "compress", desc := "([CII)[B" } : Jvm.MethodName) jdk_52_method_16_code (6 : Nat) (Option.some (Jvm.ClassFile.FieldType.array Jvm.ClassFile.FieldType.byte))).before args0 about1 = true := code_word (m := ⟨8, 2⟩) (meth := k8m2) (c := k8c2) (by decide +kernel) rfl rfl rfl (by decide +kernel)
set_option maxRecDepth 65536 in
theorem w_c6 : (Jvm.Cond.code ({ cls := "java/lang/StringUTF16", name := "compress", desc := "([CI[BII)I" } : Jvm.MethodName) jdk_52_method_21_code (7 : Nat) (Option.some Jvm.ClassFile.FieldType.int)).before args0 about1 = true := code_word (m := ⟨8, 3⟩) (meth := k8m3) (c := k8c3) (by decide +kernel) rfl rfl rfl (by decide +kernel)
set_option maxRecDepth 65536 in
theorem w_c7 : (Jvm.Cond.code ({ cls := "java/lang/StringUTF16", name := "coderFromArrayLen", desc := "([BI)B" } : Jvm.MethodName) jdk_52_method_15_code (2 : Nat) (Option.some Jvm.ClassFile.FieldType.byte)).before args0 about1 = true := code_word (m := ⟨8, 1⟩) (meth := k8m1) (c := k8c1) (by decide +kernel) rfl rfl rfl (by decide +kernel)
set_option maxRecDepth 65536 in
theorem w_c8 : (Jvm.Cond.code ({ cls := "com/example/scholiast/scholiast/ModsReaderNeedsChildElementPinLaw", name := "nameChars", desc := "(I)[C" } : Jvm.MethodName) method_3_code (1 : Nat) (Option.some (Jvm.ClassFile.FieldType.array Jvm.ClassFile.FieldType.char))).before args0 about1 = true := code_word (m := ⟨1, 2⟩) (meth := k1m2) (c := k1c2) (by decide +kernel) rfl rfl rfl (by decide +kernel)
set_option maxRecDepth 65536 in
theorem w_c9 : (Jvm.Cond.code ({ cls := "com/example/scholiast/scholiast/ModsReader", name := "needsChildElement", desc := "(Ljava/lang/String;Ljava/lang/String;)Z" } : Jvm.MethodName) prog_22_method_4_code (2 : Nat) (Option.some Jvm.ClassFile.FieldType.boolean)).before args0 about1 = true := code_word (m := ⟨9, 0⟩) (meth := k9m0) (c := k9c0) (by decide +kernel) rfl rfl rfl (by decide +kernel)
set_option maxRecDepth 65536 in
theorem w_c10 : (Jvm.Cond.code ({ cls := "java/lang/String", name := "equals", desc := "(Ljava/lang/Object;)Z" } : Jvm.MethodName) jdk_42_method_66_code (3 : Nat) (Option.some Jvm.ClassFile.FieldType.boolean)).before args0 about1 = true := code_word (m := ⟨7, 2⟩) (meth := k7m2) (c := k7c2) (by decide +kernel) rfl rfl rfl (by decide +kernel)
set_option maxRecDepth 65536 in
theorem w_c11 : (Jvm.Cond.code ({ cls := "java/lang/StringLatin1", name := "equals", desc := "([B[B)Z" } : Jvm.MethodName) jdk_43_method_13_code (3 : Nat) (Option.some Jvm.ClassFile.FieldType.boolean)).before args0 about1 = true := code_word (m := ⟨10, 2⟩) (meth := k10m2) (c := k10c2) (by decide +kernel) rfl rfl rfl (by decide +kernel)
set_option maxRecDepth 65536 in
theorem w_c12 : (Jvm.Cond.code ({ cls := "java/lang/String", name := "valueOf", desc := "(C)Ljava/lang/String;" } : Jvm.MethodName) jdk_42_method_139_code (1 : Nat) (Option.some (Jvm.ClassFile.FieldType.object "java/lang/String"))).before args0 about1 = true := code_word (m := ⟨7, 3⟩) (meth := k7m3) (c := k7c3) (by decide +kernel) rfl rfl rfl (by decide +kernel)
set_option maxRecDepth 65536 in
theorem w_c13 : (Jvm.Cond.code ({ cls := "java/lang/StringLatin1", name := "canEncode", desc := "(C)Z" } : Jvm.MethodName) jdk_43_method_3_code (1 : Nat) (Option.some Jvm.ClassFile.FieldType.boolean)).before args0 about1 = true := code_word (m := ⟨10, 1⟩) (meth := k10m1) (c := k10c1) (by decide +kernel) rfl rfl rfl (by decide +kernel)
set_option maxRecDepth 65536 in
theorem w_c14 : (Jvm.Cond.code ({ cls := "java/lang/StringLatin1", name := "toBytes", desc := "(C)[B" } : Jvm.MethodName) jdk_43_method_46_code (1 : Nat) (Option.some (Jvm.ClassFile.FieldType.array Jvm.ClassFile.FieldType.byte))).before args0 about1 = true := code_word (m := ⟨10, 3⟩) (meth := k10m3) (c := k10c3) (by decide +kernel) rfl rfl rfl (by decide +kernel)
set_option maxRecDepth 65536 in
theorem w_c15 : (Jvm.Cond.code ({ cls := "java/lang/String", name := "<init>", desc := "([BB)V" } : Jvm.MethodName) jdk_42_method_151_code (3 : Nat) (Option.none : Option Jvm.ClassFile.FieldType)).before args0 about1 = true := code_word (m := ⟨7, 5⟩) (meth := k7m5) (c := k7c5) (by decide +kernel) rfl rfl rfl (by decide +kernel)
def codes1 : List Jvm.Cond := [Jvm.Cond.code x code maxLocals ret, Jvm.Cond.code ({ cls := "com/example/scholiast/scholiast/ModsReaderNeedsChildElementPinLaw", name := "nsChars", desc := "(I)[C" } : Jvm.MethodName) method_2_code (1 : Nat) (Option.some (Jvm.ClassFile.FieldType.array Jvm.ClassFile.FieldType.char)), Jvm.Cond.code ({ cls := "java/lang/String", name := "<init>", desc := "([C)V" } : Jvm.MethodName) jdk_42_method_3_code (2 : Nat) (Option.none : Option Jvm.ClassFile.FieldType), Jvm.Cond.code ({ cls := "java/lang/String", name := "<init>", desc := "([CIILjava/lang/Void;)V" } : Jvm.MethodName) jdk_42_method_149_code (6 : Nat) (Option.none : Option Jvm.ClassFile.FieldType), Jvm.Cond.code ({ cls := "java/lang/Object", name := "<init>", desc := "()V" } : Jvm.MethodName) object_method_1_code (1 : Nat) (Option.none : Option Jvm.ClassFile.FieldType), Jvm.Cond.code ({ cls := "java/lang/StringUTF16", name := "compress", desc := "([CII)[B" } : Jvm.MethodName) jdk_52_method_16_code (6 : Nat) (Option.some (Jvm.ClassFile.FieldType.array Jvm.ClassFile.FieldType.byte)), Jvm.Cond.code ({ cls := "java/lang/StringUTF16", name := "compress", desc := "([CI[BII)I" } : Jvm.MethodName) jdk_52_method_21_code (7 : Nat) (Option.some Jvm.ClassFile.FieldType.int), Jvm.Cond.code ({ cls := "java/lang/StringUTF16", name := "coderFromArrayLen", desc := "([BI)B" } : Jvm.MethodName) jdk_52_method_15_code (2 : Nat) (Option.some Jvm.ClassFile.FieldType.byte), Jvm.Cond.code ({ cls := "com/example/scholiast/scholiast/ModsReaderNeedsChildElementPinLaw", name := "nameChars", desc := "(I)[C" } : Jvm.MethodName) method_3_code (1 : Nat) (Option.some (Jvm.ClassFile.FieldType.array Jvm.ClassFile.FieldType.char)), Jvm.Cond.code ({ cls := "com/example/scholiast/scholiast/ModsReader", name := "needsChildElement", desc := "(Ljava/lang/String;Ljava/lang/String;)Z" } : Jvm.MethodName) prog_22_method_4_code (2 : Nat) (Option.some Jvm.ClassFile.FieldType.boolean), Jvm.Cond.code ({ cls := "java/lang/String", name := "equals", desc := "(Ljava/lang/Object;)Z" } : Jvm.MethodName) jdk_42_method_66_code (3 : Nat) (Option.some Jvm.ClassFile.FieldType.boolean), Jvm.Cond.code ({ cls := "java/lang/StringLatin1", name := "equals", desc := "([B[B)Z" } : Jvm.MethodName) jdk_43_method_13_code (3 : Nat) (Option.some Jvm.ClassFile.FieldType.boolean), Jvm.Cond.code ({ cls := "java/lang/String", name := "valueOf", desc := "(C)Ljava/lang/String;" } : Jvm.MethodName) jdk_42_method_139_code (1 : Nat) (Option.some (Jvm.ClassFile.FieldType.object "java/lang/String")), Jvm.Cond.code ({ cls := "java/lang/StringLatin1", name := "canEncode", desc := "(C)Z" } : Jvm.MethodName) jdk_43_method_3_code (1 : Nat) (Option.some Jvm.ClassFile.FieldType.boolean), Jvm.Cond.code ({ cls := "java/lang/StringLatin1", name := "toBytes", desc := "(C)[B" } : Jvm.MethodName) jdk_43_method_46_code (1 : Nat) (Option.some (Jvm.ClassFile.FieldType.array Jvm.ClassFile.FieldType.byte)), Jvm.Cond.code ({ cls := "java/lang/String", name := "<init>", desc := "([BB)V" } : Jvm.MethodName) jdk_42_method_151_code (3 : Nat) (Option.none : Option Jvm.ClassFile.FieldType)]
set_option maxRecDepth 65536 in
theorem codes_eq : words1.filter isCode = codes1 := rfl
theorem w_codes : ∀ c ∈ words1.filter isCode, c.before args0 about1 = true := by
  rw [codes_eq]
  intro c hc
  simp only [codes1, List.mem_cons, List.not_mem_nil, or_false] at hc
  rcases hc with rfl | rfl | rfl | rfl | rfl | rfl | rfl | rfl | rfl | rfl | rfl | rfl | rfl | rfl | rfl | rfl
  · exact w_c0
  · exact w_c1
  · exact w_c2
  · exact w_c3
  · exact w_c4
  · exact w_c5
  · exact w_c6
  · exact w_c7
  · exact w_c8
  · exact w_c9
  · exact w_c10
  · exact w_c11
  · exact w_c12
  · exact w_c13
  · exact w_c14
  · exact w_c15
set_option maxRecDepth 65536 in
theorem w_t1 : (words1.take 24).all (fun c => isCode c || c.before args0 about1) = true := by decide +kernel
set_option maxRecDepth 65536 in
theorem w_t2 : ((words1.drop 24).take 24).all (fun c => isCode c || c.before args0 about1) = true := by decide +kernel
set_option maxRecDepth 65536 in
theorem w_t3 : (((words1.drop 24).drop 24).take 24).all (fun c => isCode c || c.before args0 about1) = true := by decide +kernel
set_option maxRecDepth 65536 in
theorem w_t4 : (((words1.drop 24).drop 24).drop 24).all (fun c => isCode c || c.before args0 about1) = true := by decide +kernel
theorem w_tables : (allAtoms (Jvm.Cond.code x code maxLocals ret :: tables_1)).before args0 about1 = true := by
  rw [allAtoms_all]
  show words1.all (fun c => c.before args0 about1) = true
  refine all_split ?_ w_codes
  rw [← List.take_append_drop 24 words1, List.all_append, w_t1, ← List.take_append_drop 24 (words1.drop 24), List.all_append, w_t2, ← List.take_append_drop 24 ((words1.drop 24).drop 24), List.all_append, w_t3, w_t4]
  rfl
set_option maxRecDepth 65536 in
theorem w_rest : rest_1_c.before args0 about1 = true := by decide +kernel
set_option maxRecDepth 65536 in
theorem w_case : (Jvm.Cond.and given_1 narrow_1).before args0 about1 = true := by decide +kernel
set_option maxRecDepth 65536 in
theorem w_consts : constsHeld consts_1 about1 := Jvm.Lit.constsHeldB_iff.mp (by decide +kernel)
theorem w_applies : (headSpec (Jvm.Cond.code x code maxLocals ret :: tables_1) room_1).applies x e0.platform about1 = true :=
  (Spec.applies_iff w_frames).mpr ⟨w_running, w_runnable, w_alone, w_named, w_hears, w_ripe, w_room, w_tables⟩
theorem atStart : AtStart classFile x code maxLocals ret World_1 tables_1 room_1 Calls_1 rest_1 Pre_1 launch0 p0 e0 about1 theMethod args0 below0 :=
  ⟨lists_1, trivial, launch0.admits_env _ _ _, launch0.least_env, fairChoices_fair.cas, fairChoices_fair.clock, w_frames, w_args, w_heap, w_applies, ⟨w_consts, trivial⟩, w_rest, w_case⟩
end start1
theorem witness_1 : WitnessClaimed_1 := ⟨start1.p0, start1.e0, start1.about1, start1.theMethod, start1.args0, start1.below0, start1.atStart⟩
end Jvm.Pilot.@@N@@
