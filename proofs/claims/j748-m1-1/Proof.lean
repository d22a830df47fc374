import JvmDerived
import JvmDerived.Pilot.@@N@@Statement
import JvmDerived.Pilot.@@N@@Code
set_option linter.unusedVariables false
set_option linter.unusedSimpArgs false
/- laws to paste: Road.backV, Road.eqW, Road.codOf (cut by pick.py; bodies as the Statement names them) -/
namespace Jvm.Pilot.@@N@@
namespace StrChars
open Jvm Sem ClassFile Op Lib Jvm.Stand Jvm.Free.XT Jvm.Free.ALB Jvm.Free.JM Jvm.Free
open Jvm.Lib.Cold (StaticIs)
/-- a char array whose places are chars -/
def Ch (a : Addr) (A : Cell) (U : State) : Prop := Arr .char a A U ∧ Typed .char A
theorem Ch.mv {a : Addr} {A : Cell} {U U' : State} (h : Ch a A U) (hal : U.vm.Alike U'.vm) (hh : U'.heap = U.heap) : Ch a A U' := ⟨h.1.mv hal hh, h.2⟩
theorem Ch.keep {a : Addr} {A : Cell} {U U' : State} (h : Ch a A U) (hal : U.vm.Alike U'.vm) (hk : U'.heap[a]? = some A) : Ch a A U' := ⟨h.1.keep hal hk, h.2⟩
/-- what place i of a char[]'s cell holds -/
def cv (A : Cell) (i : Nat) : Int32 := match A.slots[i]? with | some (.int x) => x | _ => 0
theorem Ch.get {a : Addr} {A : Cell} {U : State} (h : Ch a A U) {i : Nat} (hi : i < A.slots.size) : A.slots[i]? = some (.int (cv A i)) := by
  have e := Array.getElem?_eq_getElem hi
  have f := h.2 i _ e
  unfold cv; rw [e]
  generalize A.slots[i] = v at f
  cases v <;> simp [fits] at f ⊢
/-- the byte that i2b leaves of a char -/
def lo8 (x : Int32) : Int32 := x.toInt8.toInt32
theorem fits_lo8 (y : Int32) : fits .byte (.int (lo8 y)) = true := by
  have h1 := y.toInt8.le_toInt
  have h2 := y.toInt8.toInt_lt
  simp only [lo8, fits, Bool.and_eq_true, decide_eq_true_eq, Int32.le_iff_toInt_le, Int8.toInt_toInt32, show (-128 : Int32).toInt = -128 from by decide, show (127 : Int32).toInt = 127 from by decide]
  omega
/-- A' is A but that each place j of lo .. hi - 1 holds f j -/
def Laid (A A' : Cell) (lo hi : Nat) (f : Nat → Value) : Prop := A'.cls = A.cls ∧ A'.vm = A.vm ∧ A'.slots.size = A.slots.size ∧ ∀ i, A'.slots[i]? = if lo ≤ i ∧ i < hi then some (f i) else A.slots[i]?
theorem Laid.zero (A : Cell) (lo : Nat) (f : Nat → Value) : Laid A A lo (lo + 0) f := ⟨rfl, rfl, rfl, fun i => by rw [if_neg (by omega)]⟩
theorem Laid.step {A Ak : Cell} {lo k : Nat} {f : Nat → Value} {v : Value} (h : Laid A Ak lo k f) (hlo : lo ≤ k) (hk : k < Ak.slots.size) (hv : v = f k) : Laid A (Ak.setSlot k v) lo (k + 1) f := by
  refine ⟨h.1, h.2.1, by simpa [Cell.setSlot] using h.2.2.1, fun i => ?_⟩
  by_cases e : k = i
  · subst e; rw [Cell.slots_setSlot_self v hk, if_pos (by omega), hv]
  · rw [Cell.slots_setSlot_ne v e, h.2.2.2 i]
    by_cases q : lo ≤ i ∧ i < k
    · rw [if_pos q, if_pos (by omega)]
    · rw [if_neg q, if_neg (by omega)]
def U16 : String := "java/lang/StringUTF16"
namespace Cmp5
def yN : MethodName := ⟨"java/lang/StringUTF16", "compress", "([CI[BII)I"⟩
abbrev yB : ByteArray := jdk_52_method_21_code
theorem d0 : decode yB 0 = .ok (.iconst 0, 1) := by decide +kernel
theorem d1 : decode yB 1 = .ok (.istore 5, 2) := by decide +kernel
theorem d3 : decode yB 3 = .ok (.iload 5, 2) := by decide +kernel
theorem d5 : decode yB 5 = .ok (.iload 4, 2) := by decide +kernel
theorem d7 : decode yB 7 = .ok (.if_icmp (.ge) 37, 3) := by decide +kernel
theorem d10 : decode yB 10 = .ok (.aload_n 0, 1) := by decide +kernel
theorem d11 : decode yB 11 = .ok (.iload_n 1, 1) := by decide +kernel
theorem d12 : decode yB 12 = .ok (.caload, 1) := by decide +kernel
theorem d13 : decode yB 13 = .ok (.istore 6, 2) := by decide +kernel
theorem d15 : decode yB 15 = .ok (.iload 6, 2) := by decide +kernel
theorem d17 : decode yB 17 = .ok (.sipush 255, 3) := by decide +kernel
theorem d20 : decode yB 20 = .ok (.if_icmp (.le) 6, 3) := by decide +kernel
theorem d26 : decode yB 26 = .ok (.aload_n 2, 1) := by decide +kernel
theorem d27 : decode yB 27 = .ok (.iload_n 3, 1) := by decide +kernel
theorem d28 : decode yB 28 = .ok (.iload 6, 2) := by decide +kernel
theorem d30 : decode yB 30 = .ok (.i2b, 1) := by decide +kernel
theorem d31 : decode yB 31 = .ok (.bastore, 1) := by decide +kernel
theorem d32 : decode yB 32 = .ok (.iinc 1 1, 3) := by decide +kernel
theorem d35 : decode yB 35 = .ok (.iinc 3 1, 3) := by decide +kernel
theorem d38 : decode yB 38 = .ok (.iinc 5 1, 3) := by decide +kernel
theorem d41 : decode yB 41 = .ok (.goto (-38), 3) := by decide +kernel
theorem d44 : decode yB 44 = .ok (.iload 4, 2) := by decide +kernel
theorem d46 : decode yB 46 = .ok (.ireturn, 1) := by decide +kernel
def site : List Cond := []
def tab : Cond := tabOf yN yB 7 (some .int) site
def P (b : Addr) (A : Cell) (d : Addr) (B : Cell) (o q len : Nat) (args : Array Value) (s : State) : Prop := args = #[.ref b, .int (Int32.ofNat o), .ref d, .int (Int32.ofNat q), .int (Int32.ofNat len)] ∧ Ch b A s ∧ Arr .byte d B s ∧ b ≠ d ∧ o + len ≤ A.slots.size ∧ q + len ≤ B.slots.size ∧ ∀ i, i < len → ¬ 255 < cv A (o + i)
def E (b : Addr) (A : Cell) (d : Addr) (B : Cell) (o q len : Nat) (r : Option Value) (s u : State) : Prop := r = some (.int (Int32.ofNat len)) ∧ ∃ B', Put d B' s u ∧ Laid B B' q (q + len) (fun j => Value.int (lo8 (cv A (o + (j - q)))))
/-- no char of the range above 255: len; the places written hold each char's low byte -/
theorem law (l : Launch) (b : Addr) (A : Cell) (d : Addr) (B : Cell) (o q len : Nat) : Law l yN 5 5 0 0 yB 7 (some .int) site (P b A d B o q len) (E b A d B o q len) (copyLocs d q len) 0 0 := by
  refine Law.of_walk (plainFor_of_name (by decide +kernel)) (by decide +kernel) (by decide +kernel) (by decide) (fun _ _ h => by rw [h.1]; rfl) (fun _ U U' hal hh h => ⟨h.1, h.2.1.mv hal hh, h.2.2.1.mv hal hh, h.2.2.2⟩) (fun r U U' V V' h1 hal h2 h => ⟨h.1, h.2.elim fun B' q => ⟨B', q.1.mv h1 h2, q.2⟩⟩) ?_
  intro p e s m args below meth c s₁ X0 hexec hbytes hml hret hlk hnm hown hh0 W hP
  obtain ⟨rfl, hA, hB, hne, l1, l2, hp⟩ := hP
  have c1 : Steps p.tables e below (s₁.setTop (entryFrame m #[.ref b, .int (Int32.ofNat o), .ref d, .int (Int32.ofNat q), .int (Int32.ofNat len)] 7)) (s₁.setTop (mkF m 0 #[.val (.ref b), .val (.int (Int32.ofNat o)), .val (.ref d), .val (.int (Int32.ofNat q)), .val (.int (Int32.ofNat len)), .unset, .unset] [])) := entry rfl
  have hA0 := hA.1.mv X0.warmed.alike hh0
  have hB0 := hB.mv X0.warmed.alike hh0
  have a31 := hA.1.2.2.2
  have c2 : Steps p.tables e below (s₁.setTop (entryFrame m #[.ref b, .int (Int32.ofNat o), .ref d, .int (Int32.ofNat q), .int (Int32.ofNat len)] 7)) (s₁.setTop (mkF m 3 #[.val (.ref b), .val (.int (Int32.ofNat o)), .val (.ref d), .val (.int (Int32.ofNat q)), .val (.int (Int32.ofNat len)), .val (.int 0), .unset] [])) := c1.trans (by
    refine iconstV X0.here hexec rfl 0 (hb hbytes d0) (by decide) ?_
    refine XS.istore X0.here hexec rfl (hb hbytes d1) rfl rfl ?_
    exact Steps.refl _)
  have loop : ∀ (r i : Nat), i + r = len → ∀ (z : Slot), (z = .unset ∨ ∃ w, z = .val w ∧ w.category = 1) → ∀ (Tl : State) (Bk : Cell), Stand p l e { frames := 0, locals := 0, cells := 0, slots := 0 } s m #[.ref b, .int (Int32.ofNat o), .ref d, .int (Int32.ofNat q), .int (Int32.ofNat len)] below meth c Tl ([] ++ copyLocs d q i) 0 0 → Put d Bk s₁ Tl → Laid B Bk q (q + i) (fun j => Value.int (lo8 (cv A (o + (j - q))))) →
      Steps p.tables e below (s₁.setTop (entryFrame m #[.ref b, .int (Int32.ofNat o), .ref d, .int (Int32.ofNat q), .int (Int32.ofNat len)] 7)) (Tl.setTop (mkF m 3 #[.val (.ref b), .val (.int (Int32.ofNat (o + i))), .val (.ref d), .val (.int (Int32.ofNat (q + i))), .val (.int (Int32.ofNat len)), .val (.int (Int32.ofNat i)), z] [])) → ∃ (T' : State) (B' : Cell) (z' : Slot), Stand p l e { frames := 0, locals := 0, cells := 0, slots := 0 } s m #[.ref b, .int (Int32.ofNat o), .ref d, .int (Int32.ofNat q), .int (Int32.ofNat len)] below meth c T' ([] ++ copyLocs d q len) 0 0 ∧ Put d B' s₁ T' ∧ Laid B B' q (q + len) (fun j => Value.int (lo8 (cv A (o + (j - q))))) ∧
      Steps p.tables e below (s₁.setTop (entryFrame m #[.ref b, .int (Int32.ofNat o), .ref d, .int (Int32.ofNat q), .int (Int32.ofNat len)] 7)) (T'.setTop (mkF m 3 #[.val (.ref b), .val (.int (Int32.ofNat (o + len))), .val (.ref d), .val (.int (Int32.ofNat (q + len))), .val (.int (Int32.ofNat len)), .val (.int (Int32.ofNat len)), z'] [])) := by
    intro r
    induction r with
    | zero =>
      intro i hi z hz Tl Bk Xl pl fl cl
      have hil : i = len := by omega
      rw [hil] at Xl fl cl
      exact ⟨Tl, Bk, z, Xl, pl, fl, cl⟩
    | succ r ih =>
      intro i hi z hz Tl Bk Xl pl fl cl
      have all := X0.warmed.alike.symm.trans Xl.warmed.alike
      have hAl := hA0.keep all (pl.other hne hA0.1)
      have hBk := hB0.like all pl.1 fl.1 fl.2.1 fl.2.2.1
      have hlt : q + i < Bk.slots.size := by rw [fl.2.2.1]; omega
      have c3 : Steps p.tables e below (s₁.setTop (entryFrame m #[.ref b, .int (Int32.ofNat o), .ref d, .int (Int32.ofNat q), .int (Int32.ofNat len)] 7)) (Tl.setTop (mkF m 12 #[.val (.ref b), .val (.int (Int32.ofNat (o + i))), .val (.ref d), .val (.int (Int32.ofNat (q + i))), .val (.int (Int32.ofNat len)), .val (.int (Int32.ofNat i)), z] [.int (Int32.ofNat (o + i)), .ref b])) := cl.trans (by
        refine XS.iload Xl.here hexec rfl (hb hbytes d3) rfl ?_
        refine XS.iload Xl.here hexec rfl (hb hbytes d5) rfl ?_
        refine XS.icmpNo Xl.here hexec rfl (hb hbytes d7) rfl (ii_ge_f (lt32 (by omega) (by omega))) ?_
        refine XS.aloadN Xl.here hexec rfl (hb hbytes d10) rfl rfl ?_
        refine XS.iloadN Xl.here hexec rfl (hb hbytes d11) rfl ?_
        exact Steps.refl _)
      have c4 : Steps p.tables e below (s₁.setTop (entryFrame m #[.ref b, .int (Int32.ofNat o), .ref d, .int (Int32.ofNat q), .int (Int32.ofNat len)] 7)) (Tl.setTop (mkF m 13 #[.val (.ref b), .val (.int (Int32.ofNat (o + i))), .val (.ref d), .val (.int (Int32.ofNat (q + i))), .val (.int (Int32.ofNat len)), .val (.int (Int32.ofNat i)), z] [.int (cv A (o + i))])) := c3.trans (by
        refine Xl.aget hexec hAl rfl (hA.get (i := o + i) (by omega)) rfl rfl (hb hbytes d12) ?_
        exact Steps.refl _)
      have c5 : Steps p.tables e below (s₁.setTop (entryFrame m #[.ref b, .int (Int32.ofNat o), .ref d, .int (Int32.ofNat q), .int (Int32.ofNat len)] 7)) (Tl.setTop (mkF m 15 #[.val (.ref b), .val (.int (Int32.ofNat (o + i))), .val (.ref d), .val (.int (Int32.ofNat (q + i))), .val (.int (Int32.ofNat len)), .val (.int (Int32.ofNat i)), .val (.int (cv A (o + i)))] [])) := c4.trans (by
        refine XS.istoreS Xl.here hexec rfl (hb hbytes d13) rfl rfl hz ?_
        exact Steps.refl _)
      have c6 : Steps p.tables e below (s₁.setTop (entryFrame m #[.ref b, .int (Int32.ofNat o), .ref d, .int (Int32.ofNat q), .int (Int32.ofNat len)] 7)) (Tl.setTop (mkF m 31 #[.val (.ref b), .val (.int (Int32.ofNat (o + i))), .val (.ref d), .val (.int (Int32.ofNat (q + i))), .val (.int (Int32.ofNat len)), .val (.int (Int32.ofNat i)), .val (.int (cv A (o + i)))] [.int (lo8 (cv A (o + i))), .int (Int32.ofNat (q + i)), .ref d])) := c5.trans (by
        refine XS.iload Xl.here hexec rfl (hb hbytes d15) rfl ?_
        refine sipushV Xl.here hexec rfl 255 (hb hbytes d17) (by decide) ?_
        refine XS.icmpYes Xl.here hexec rfl (pc0 := 20) rfl (hb hbytes d20) rfl (ii_le_t (hp i (by omega))) (by decide) rfl ?_
        refine XS.aloadN Xl.here hexec rfl (hb hbytes d26) rfl rfl ?_
        refine XS.iloadN Xl.here hexec rfl (hb hbytes d27) rfl ?_
        refine XS.iload Xl.here hexec rfl (hb hbytes d28) rfl ?_
        refine i2b Xl.here hexec rfl (hb hbytes d30) rfl ?_
        exact Steps.refl _)
      obtain ⟨T7, X7, p7, st7⟩ := Xl.aput hexec hBk rfl hlt rfl (fits_lo8 (cv A (o + i))) (g := (mkF m 31 #[.val (.ref b), .val (.int (Int32.ofNat (o + i))), .val (.ref d), .val (.int (Int32.ofNat (q + i))), .val (.int (Int32.ofNat len)), .val (.int (Int32.ofNat i)), .val (.int (cv A (o + i)))] [.int (lo8 (cv A (o + i))), .int (Int32.ofNat (q + i)), .ref d])) rfl (rest := []) rfl (hb hbytes d31)
      have c8 : Steps p.tables e below (s₁.setTop (entryFrame m #[.ref b, .int (Int32.ofNat o), .ref d, .int (Int32.ofNat q), .int (Int32.ofNat len)] 7)) (T7.setTop (mkF m 32 #[.val (.ref b), .val (.int (Int32.ofNat (o + i))), .val (.ref d), .val (.int (Int32.ofNat (q + i))), .val (.int (Int32.ofNat len)), .val (.int (Int32.ofNat i)), .val (.int (cv A (o + i)))] [])) := c6.trans (st7 _ (Steps.refl _))
      have c9 : Steps p.tables e below (s₁.setTop (entryFrame m #[.ref b, .int (Int32.ofNat o), .ref d, .int (Int32.ofNat q), .int (Int32.ofNat len)] 7)) (T7.setTop (mkF m 3 #[.val (.ref b), .val (.int (Int32.ofNat (o + i) + 1)), .val (.ref d), .val (.int (Int32.ofNat (q + i) + 1)), .val (.int (Int32.ofNat len)), .val (.int (Int32.ofNat i + 1)), .val (.int (cv A (o + i)))] [])) := c8.trans (by
        refine iincV X7.here hexec rfl 1 (hb hbytes d32) (by decide) rfl rfl ?_
        refine iincV X7.here hexec rfl 1 (hb hbytes d35) (by decide) rfl rfl ?_
        refine iincV X7.here hexec rfl 1 (hb hbytes d38) (by decide) rfl rfl ?_
        refine XS.goto X7.here hexec rfl (pc0 := 41) rfl (hb hbytes d41) (by decide) rfl ?_
        exact Steps.refl _)
      have c10 : Steps p.tables e below (s₁.setTop (entryFrame m #[.ref b, .int (Int32.ofNat o), .ref d, .int (Int32.ofNat q), .int (Int32.ofNat len)] 7)) (T7.setTop (mkF m 3 #[.val (.ref b), .val (.int (Int32.ofNat (o + (i + 1)))), .val (.ref d), .val (.int (Int32.ofNat (q + (i + 1)))), .val (.int (Int32.ofNat len)), .val (.int (Int32.ofNat (i + 1))), .val (.int (cv A (o + i)))] [])) := by
        have := c9
        rw [succ32, succ32, succ32] at this
        exact this
      exact ih (i + 1) (by omega) _ (Or.inr ⟨_, rfl, rfl⟩) T7 _ (by rw [copyLocs_step, ← List.append_assoc]; exact X7) (pl.trans p7) (fl.step (by omega) hlt (by simp)) c10
  obtain ⟨T9, B9, z9, X9, p9, f9, g9⟩ := loop len 0 (by omega) .unset (Or.inl rfl) s₁ B (by simpa [copyLocs] using X0) ⟨hB0.1, fun _ _ => rfl, rfl⟩ (Laid.zero _ _ _) c2
  have c11 : Steps p.tables e below (s₁.setTop (entryFrame m #[.ref b, .int (Int32.ofNat o), .ref d, .int (Int32.ofNat q), .int (Int32.ofNat len)] 7)) (T9.setTop (mkF m 46 #[.val (.ref b), .val (.int (Int32.ofNat (o + len))), .val (.ref d), .val (.int (Int32.ofNat (q + len))), .val (.int (Int32.ofNat len)), .val (.int (Int32.ofNat len)), z9] [.int (Int32.ofNat len)])) := g9.trans (by
    refine XS.iload X9.here hexec rfl (hb hbytes d3) rfl ?_
    refine XS.iload X9.here hexec rfl (hb hbytes d5) rfl ?_
    refine XS.icmpYes X9.here hexec rfl (pc0 := 7) rfl (hb hbytes d7) rfl (ii_ge_t (nlt32 (by omega) (Nat.le_refl _))) (by decide) rfl ?_
    refine XS.iload X9.here hexec rfl (hb hbytes d44) rfl ?_
    exact Steps.refl _)
  exact ⟨T9, some (.int (Int32.ofNat len)), _, _, _, X9, by simp, rfl, rfl, (fun h => by cases h), ⟨rfl, B9, p9.from hh0, f9⟩, fun fs hl => c11.trans (X9.ireturnOut hexec hret rfl (Or.inl rfl) (hb hbytes d46) hl)⟩
end Cmp5
namespace Cmp3
def yN : MethodName := ⟨"java/lang/StringUTF16", "compress", "([CII)[B"⟩
abbrev yB : ByteArray := jdk_52_method_16_code
theorem d0 : decode yB 0 = .ok (.iload_n 2, 1) := by decide +kernel
theorem d1 : decode yB 1 = .ok (.newarray .byte, 2) := by decide +kernel
theorem d3 : decode yB 3 = .ok (.astore_n 3, 1) := by decide +kernel
theorem d4 : decode yB 4 = .ok (.aload_n 0, 1) := by decide +kernel
theorem d5 : decode yB 5 = .ok (.iload_n 1, 1) := by decide +kernel
theorem d6 : decode yB 6 = .ok (.aload_n 3, 1) := by decide +kernel
theorem d7 : decode yB 7 = .ok (.iconst 0, 1) := by decide +kernel
theorem d8 : decode yB 8 = .ok (.iload_n 2, 1) := by decide +kernel
theorem d9 : decode yB 9 = .ok (.invokestatic 115, 3) := by decide +kernel
theorem d12 : decode yB 12 = .ok (.istore 4, 2) := by decide +kernel
theorem d14 : decode yB 14 = .ok (.iload 4, 2) := by decide +kernel
theorem d16 : decode yB 16 = .ok (.iload_n 2, 1) := by decide +kernel
theorem d17 : decode yB 17 = .ok (.if_icmp (.eq) 40, 3) := by decide +kernel
theorem d57 : decode yB 57 = .ok (.aload_n 3, 1) := by decide +kernel
theorem d58 : decode yB 58 = .ok (.areturn, 1) := by decide +kernel
def site : List Cond := [.arrayClass .byte, Cmp5.tab] ++ staticW U16 115 Cmp5.yN
def tab : Cond := tabOf yN yB 6 (some (.array .byte)) site
def P (b : Addr) (A : Cell) (o len : Nat) (args : Array Value) (s : State) : Prop := args = #[.ref b, .int (Int32.ofNat o), .int (Int32.ofNat len)] ∧ Ch b A s ∧ o + len ≤ A.slots.size ∧ len ≤ 536870912 ∧ ∀ i, i < len → ¬ 255 < cv A (o + i)
def E (b : Addr) (A : Cell) (o len : Nat) (r : Option Value) (s u : State) : Prop := NewArr .byte "[B" len (fun j => .int (lo8 (cv A (o + j)))) r s u ∧ u.heap.size = s.heap.size + 1
/-- no char of the range above 255: a new byte[] of their low bytes -/
theorem law (l : Launch) (b : Addr) (A : Cell) (o len : Nat) : Law l yN 3 3 1 18 yB 6 (some (.array .byte)) site (P b A o len) (E b A o len) [] 1 len := by
  refine Law.of_walk (plainFor_of_name (by decide +kernel)) (by decide +kernel) (by decide +kernel) (by decide) (fun _ _ h => by rw [h.1]; rfl) (fun _ U U' hal hh h => ⟨h.1, h.2.1.mv hal hh, h.2.2⟩) (fun r U U' V V' h1 hal h2 h => ⟨NewArr.mv r U U' V V' h1 hal h2 h.1, by rw [h1, h2]; exact h.2⟩) ?_
  intro p e s m args below meth c s₁ X0 hexec hbytes hml hret hlk hnm hown hh0 W hP
  obtain ⟨rfl, hA, l1, l2, hp⟩ := hP
  have a31 := hA.1.2.2.2
  have c1 : Steps p.tables e below (s₁.setTop (entryFrame m #[.ref b, .int (Int32.ofNat o), .int (Int32.ofNat len)] 6)) (s₁.setTop (mkF m 0 #[.val (.ref b), .val (.int (Int32.ofNat o)), .val (.int (Int32.ofNat len)), .unset, .unset, .unset] [])) := entry rfl
  have c2 : Steps p.tables e below (s₁.setTop (entryFrame m #[.ref b, .int (Int32.ofNat o), .int (Int32.ofNat len)] 6)) (s₁.setTop (mkF m 1 #[.val (.ref b), .val (.int (Int32.ofNat o)), .val (.int (Int32.ofNat len)), .unset, .unset, .unset] [.int (Int32.ofNat len)])) := c1.trans (by
    refine XS.iloadN X0.here hexec rfl (hb hbytes d0) rfl ?_
    exact Steps.refl _)
  obtain ⟨T3, B3, X3, ba3, bs3, bv3, bh3, bf3, st3⟩ := X0.anew hexec (atype := .byte) (wk W (.arrayClass .byte)) rfl (by show len * 1 ≤ _; omega) (by omega) (g := (mkF m 1 #[.val (.ref b), .val (.int (Int32.ofNat o)), .val (.int (Int32.ofNat len)), .unset, .unset, .unset] [.int (Int32.ofNat len)])) rfl (hb hbytes d1) (rest := []) rfl (Nat.le_refl _) (by show 0 + len ≤ len; omega)
  rw [hh0] at ba3 st3
  have kp3 : XT.Kept s T3 := (XT.Kept.of_eq hh0).push bh3
  have hA3 := hA.keep X3.warmed.alike (kp3 _ _ hA.1.1)
  have hne : b ≠ s.heap.size := hA.1.ne
  have c4 : Steps p.tables e below (s₁.setTop (entryFrame m #[.ref b, .int (Int32.ofNat o), .int (Int32.ofNat len)] 6)) (T3.setTop (mkF m 3 #[.val (.ref b), .val (.int (Int32.ofNat o)), .val (.int (Int32.ofNat len)), .unset, .unset, .unset] [.ref s.heap.size])) := c2.trans (st3 _ (Steps.refl _))
  have c5 : Steps p.tables e below (s₁.setTop (entryFrame m #[.ref b, .int (Int32.ofNat o), .int (Int32.ofNat len)] 6)) (T3.setTop (mkF m 9 #[.val (.ref b), .val (.int (Int32.ofNat o)), .val (.int (Int32.ofNat len)), .val (.ref s.heap.size), .unset, .unset] [.int (Int32.ofNat len), .int 0, .ref s.heap.size, .int (Int32.ofNat o), .ref b])) := c4.trans (by
    refine XS.astoreN X3.here hexec rfl (hb hbytes d3) rfl rfl rfl ?_
    refine XS.aloadN X3.here hexec rfl (hb hbytes d4) rfl rfl ?_
    refine XS.iloadN X3.here hexec rfl (hb hbytes d5) rfl ?_
    refine XS.aloadN X3.here hexec rfl (hb hbytes d6) rfl rfl ?_
    refine iconstV X3.here hexec rfl 0 (hb hbytes d7) (by decide) ?_
    refine XS.iloadN X3.here hexec rfl (hb hbytes d8) rfl ?_
    exact Steps.refl _)
  obtain ⟨v6, T6, X6, E6, g6⟩ := X3.callS hexec (Cmp5.law l b A s.heap.size B3 o 0 len) hown (wks W (staticW U16 115 Cmp5.yN)) (wk W Cmp5.tab) (W := 0) (Nat.le_of_ble_eq_true rfl) (Nat.le_of_ble_eq_true rfl) (Nat.le_refl _) (by show 0 + len + 0 ≤ len; omega) (g := (mkF m 9 #[.val (.ref b), .val (.int (Int32.ofNat o)), .val (.int (Int32.ofNat len)), .val (.ref s.heap.size), .unset, .unset] [.int (Int32.ofNat len), .int (Int32.ofNat 0), .ref s.heap.size, .int (Int32.ofNat o), .ref b])) rfl (by rw [hml]; rfl) c5 (argsL := [.ref b, .int (Int32.ofNat o), .ref s.heap.size, .int (Int32.ofNat 0), .int (Int32.ofNat len)]) (rest := []) rfl rfl (by show 2 * 0 + 0 ≤ _; decide) (hb hbytes d9) (⟨rfl, hA3, ba3, hne, l1, by rw [bs3]; simp, hp⟩)
  obtain ⟨rfl, B6, p6, f6⟩ := E6
  have c7 : Steps p.tables e below (s₁.setTop (entryFrame m #[.ref b, .int (Int32.ofNat o), .int (Int32.ofNat len)] 6)) (T6.setTop (mkF m 12 #[.val (.ref b), .val (.int (Int32.ofNat o)), .val (.int (Int32.ofNat len)), .val (.ref s.heap.size), .unset, .unset] [.int (Int32.ofNat len)])) := g6
  have c8 : Steps p.tables e below (s₁.setTop (entryFrame m #[.ref b, .int (Int32.ofNat o), .int (Int32.ofNat len)] 6)) (T6.setTop (mkF m 58 #[.val (.ref b), .val (.int (Int32.ofNat o)), .val (.int (Int32.ofNat len)), .val (.ref s.heap.size), .val (.int (Int32.ofNat len)), .unset] [.ref s.heap.size])) := c7.trans (by
    refine XS.istore X6.here hexec rfl (hb hbytes d12) rfl rfl ?_
    refine XS.iload X6.here hexec rfl (hb hbytes d14) rfl ?_
    refine XS.iloadN X6.here hexec rfl (hb hbytes d16) rfl ?_
    refine XS.icmpYes X6.here hexec rfl (pc0 := 17) rfl (hb hbytes d17) rfl (ii_eq_t rfl) (by decide) rfl ?_
    refine XS.aloadN X6.here hexec rfl (hb hbytes d57) rfl rfl ?_
    exact Steps.refl _)
  have X8 := X6.wide (L' := []) (cells' := 1) (slots' := len) (fun x hx hlt => by
    simp only [List.nil_append, copyLocs, List.mem_map, List.mem_range] at hx
    obtain ⟨i, -, rfl⟩ := hx
    exact absurd hlt (Nat.lt_irrefl _)) (Nat.le_refl _) (by omega)
  exact ⟨T6, some (.ref s.heap.size), _, _, _, X8, rfl, rfl, rfl, (fun h => by cases h), ⟨⟨rfl, B6, ba3.like (X3.warmed.alike.symm.trans X6.warmed.alike) p6.1 f6.1 f6.2.1 f6.2.2.1, f6.2.1.trans bv3, by rw [X6.warmed.alike.findClass, f6.1]; exact bf3, by rw [f6.2.2.1, bs3]; simp, fun j hj => by rw [f6.2.2.2 j, if_pos (by omega)]; rfl, kp3.put p6 (Nat.le_refl _)⟩, by rw [p6.2.2, bh3, hh0]; simp⟩, fun fs hl => c8.trans (X8.areturnOut hexec rfl hret rfl (hb hbytes d58) hl)⟩
end Cmp3
namespace CodL
def yN : MethodName := ⟨"java/lang/StringUTF16", "coderFromArrayLen", "([BI)B"⟩
abbrev yB : ByteArray := jdk_52_method_15_code
theorem d0 : decode yB 0 = .ok (.iload_n 1, 1) := by decide +kernel
theorem d1 : decode yB 1 = .ok (.aload_n 0, 1) := by decide +kernel
theorem d2 : decode yB 2 = .ok (.arraylength, 1) := by decide +kernel
theorem d3 : decode yB 3 = .ok (.isub, 1) := by decide +kernel
theorem d4 : decode yB 4 = .ok (.bipush 31, 2) := by decide +kernel
theorem d6 : decode yB 6 = .ok (.iushr, 1) := by decide +kernel
theorem d7 : decode yB 7 = .ok (.i2b, 1) := by decide +kernel
theorem d8 : decode yB 8 = .ok (.ireturn, 1) := by decide +kernel
def site : List Cond := []
def tab : Cond := tabOf yN yB 2 (some .byte) site
def P (d : Addr) (B : Cell) (args : Array Value) (s : State) : Prop := args = #[.ref d, .int (Int32.ofNat B.slots.size)] ∧ Arr .byte d B s
def E (r : Option Value) (s u : State) : Prop := XT.PureE (some (.int 0)) r s u
/-- an array as long as the number of chars: LATIN1 -/
theorem law (l : Launch) (d : Addr) (B : Cell) : Law l yN 2 2 0 0 yB 2 (some .byte) site (P d B) E [] 0 0 := by
  refine Law.of_walk (plainFor_of_name (by decide +kernel)) (by decide +kernel) (by decide +kernel) (by decide) (fun _ _ h => by rw [h.1]; rfl) (fun _ U U' hal hh h => ⟨h.1, h.2.mv hal hh⟩) (fun r U U' V V' h1 hal h2 h => XT.PureE.mv r U U' V V' h1 hal h2 h) ?_
  intro p e s m args below meth c s₁ X0 hexec hbytes hml hret hlk hnm hown hh0 W hP
  obtain ⟨rfl, hB⟩ := hP
  have hB0 := hB.mv X0.warmed.alike hh0
  have c1 : Steps p.tables e below (s₁.setTop (entryFrame m #[.ref d, .int (Int32.ofNat B.slots.size)] 2)) (s₁.setTop (mkF m 0 #[.val (.ref d), .val (.int (Int32.ofNat B.slots.size))] [])) := entry rfl
  have c2 : Steps p.tables e below (s₁.setTop (entryFrame m #[.ref d, .int (Int32.ofNat B.slots.size)] 2)) (s₁.setTop (mkF m 2 #[.val (.ref d), .val (.int (Int32.ofNat B.slots.size))] [.ref d, .int (Int32.ofNat B.slots.size)])) := c1.trans (by
    refine XS.iloadN X0.here hexec rfl (hb hbytes d0) rfl ?_
    refine XS.aloadN X0.here hexec rfl (hb hbytes d1) rfl rfl ?_
    exact Steps.refl _)
  have c3 : Steps p.tables e below (s₁.setTop (entryFrame m #[.ref d, .int (Int32.ofNat B.slots.size)] 2)) (s₁.setTop (mkF m 8 #[.val (.ref d), .val (.int (Int32.ofNat B.slots.size))] [.int (lo8 (ushr (Int32.ofNat B.slots.size - Int32.ofNat B.slots.size) 31))])) := c2.trans (by
    refine X0.alen hexec hB0 rfl rfl (hb hbytes d2) ?_
    refine XS.isub X0.here hexec rfl (hb hbytes d3) rfl ?_
    refine bipushV X0.here hexec rfl 31 (hb hbytes d4) (by decide) ?_
    refine iushr X0.here hexec rfl (hb hbytes d6) rfl ?_
    refine i2b X0.here hexec rfl (hb hbytes d7) rfl ?_
    exact Steps.refl _)
  have e0 : lo8 (ushr (Int32.ofNat B.slots.size - Int32.ofNat B.slots.size) 31) = 0 := by rw [Int32.sub_self]; decide
  rw [e0] at c3
  exact ⟨s₁, some (.int 0), _, _, _, X0, rfl, rfl, rfl, (fun h => by cases h), ⟨rfl, hh0⟩, fun fs hl => c3.trans (X0.ireturnOut hexec hret rfl (Or.inr (Or.inr (Or.inl rfl))) (hb hbytes d8) hl)⟩
end CodL
/-- the String at a is Latin-1 over a new byte[] (the heap's one new cell): the low bytes of the len chars of A from o on; every cell but a is kept -/
def Got (a : Addr) (D : Cell) (fV fC : Field) (A : Cell) (o len : Nat) (r : Option Value) (s u : State) : Prop := r = none ∧ ∃ D' V : Cell, Blank "java/lang/String" a D' u ∧ Same D D' [fV.slot, fC.slot] ∧ D'.slots[fV.slot]? = some (.ref s.heap.size) ∧ D'.slots[fC.slot]? = some (.int 0) ∧ Arr .byte s.heap.size V u ∧ V.vm = .none ∧ u.vm.findClass "[B" = some V.cls ∧ V.slots.size = len ∧ (∀ j, j < len → V.slots[j]? = some (.int (lo8 (cv A (o + j))))) ∧ (∀ (y : Addr) (c : Cell), y ≠ a → s.heap[y]? = some c → u.heap[y]? = some c) ∧ u.heap.size = s.heap.size + 1
theorem Got.mv {a : Addr} {D A : Cell} {fV fC : Field} {o len : Nat} : ∀ r (U U' V V' : State), U'.heap = U.heap → V.vm.Alike V'.vm → V'.heap = V.heap → Got a D fV fC A o len r U V → Got a D fV fC A o len r U' V' :=
  fun r U U' V V' h1 hal h2 ⟨e0, D', X, a1, a2, a3, a4, a5, a6, a7, a8, a9, a10, a11⟩ => ⟨e0, D', X, a1.mv hal h2, a2, by rw [h1]; exact a3, a4, by rw [h1]; exact a5.mv hal h2, a6, by rw [hal.findClass]; exact a7, a8, a9, by rw [h1, h2]; exact a10, by rw [h1, h2]; exact a11⟩
namespace New4
def yN : MethodName := ⟨"java/lang/String", "<init>", "([CIILjava/lang/Void;)V"⟩
abbrev yB : ByteArray := jdk_42_method_149_code
theorem d0 : decode yB 0 = .ok (.aload_n 0, 1) := by decide +kernel
theorem d1 : decode yB 1 = .ok (.invokespecial 1, 3) := by decide +kernel
theorem d4 : decode yB 4 = .ok (.iload_n 3, 1) := by decide +kernel
theorem d5 : decode yB 5 = .ok (.ifCond (.ne) 22, 3) := by decide +kernel
theorem d27 : decode yB 27 = .ok (.getstatic 38, 3) := by decide +kernel
theorem d30 : decode yB 30 = .ok (.ifCond (.eq) 28, 3) := by decide +kernel
theorem d33 : decode yB 33 = .ok (.aload_n 1, 1) := by decide +kernel
theorem d34 : decode yB 34 = .ok (.iload_n 2, 1) := by decide +kernel
theorem d35 : decode yB 35 = .ok (.iload_n 3, 1) := by decide +kernel
theorem d36 : decode yB 36 = .ok (.invokestatic 177, 3) := by decide +kernel
theorem d39 : decode yB 39 = .ok (.astore 5, 2) := by decide +kernel
theorem d41 : decode yB 41 = .ok (.aload_n 0, 1) := by decide +kernel
theorem d42 : decode yB 42 = .ok (.aload 5, 2) := by decide +kernel
theorem d44 : decode yB 44 = .ok (.iload_n 3, 1) := by decide +kernel
theorem d45 : decode yB 45 = .ok (.invokestatic 47, 3) := by decide +kernel
theorem d48 : decode yB 48 = .ok (.putfield 15, 3) := by decide +kernel
theorem d51 : decode yB 51 = .ok (.aload_n 0, 1) := by decide +kernel
theorem d52 : decode yB 52 = .ok (.aload 5, 2) := by decide +kernel
theorem d54 : decode yB 54 = .ok (.putfield 9, 3) := by decide +kernel
theorem d57 : decode yB 57 = .ok (.return_, 1) := by decide +kernel
def site : List Cond := [.fieldLink "java/lang/String" 38 "java/lang/String" "COMPACT_STRINGS" "Z", Cmp3.tab, CodL.tab, .laysFinal "java/lang/String" "java/lang/String" "value" "[B", .fieldLink "java/lang/String" 9 "java/lang/String" "value" "[B", .laysFinal "java/lang/String" "java/lang/String" "coder" "B", .fieldLink "java/lang/String" 15 "java/lang/String" "coder" "B"] ++ objW "java/lang/String" 1 ++ staticW "java/lang/String" 177 Cmp3.yN ++ staticW "java/lang/String" 47 CodL.yN
def tab : Cond := tabOf yN yB 6 none site
def P (a : Addr) (D : Cell) (fV fC : Field) (b : Addr) (A : Cell) (z : Int32) (o len : Nat) (args : Array Value) (s : State) : Prop := args = #[.ref a, .ref b, .int (Int32.ofNat o), .int (Int32.ofNat len), .null] ∧ Blank "java/lang/String" a D s ∧ Found "java/lang/String" "value" "[B" fV s ∧ Found "java/lang/String" "coder" "B" fC s ∧ Ch b A s ∧ StaticIs s "java/lang/String" "COMPACT_STRINGS" "Z" (.int z) ∧ ¬ z = 0 ∧ 0 < len ∧ o + len ≤ A.slots.size ∧ len ≤ 536870912 ∧ ∀ i, i < len → ¬ 255 < cv A (o + i)
def E (a : Addr) (D : Cell) (fV fC : Field) (A : Cell) (o len : Nat) (r : Option Value) (s u : State) : Prop := Got a D fV fC A o len r s u
/-- len > 0, no char of the range above 255: a Latin-1 String of their low bytes -/
theorem law (l : Launch) (a : Addr) (D : Cell) (fV fC : Field) (b : Addr) (A : Cell) (z : Int32) (o len : Nat) : Law l yN 5 4 2 35 yB 6 none site (P a D fV fC b A z o len) (E a D fV fC A o len) [⟨a, fC.slot⟩, ⟨a, fV.slot⟩] 1 len := by
  refine Law.of_walk (plainFor_of_name (by decide +kernel)) (by decide +kernel) (by decide +kernel) (by decide) (fun _ _ h => by rw [h.1]; rfl) (fun _ U U' hal hh h => ⟨h.1, h.2.1.mv hal hh, h.2.2.1.al hal, h.2.2.2.1.al hal, h.2.2.2.2.1.mv hal hh, h.2.2.2.2.2.1.there hal hh, h.2.2.2.2.2.2⟩) (fun r U U' V V' h1 hal h2 h => Got.mv r U U' V V' h1 hal h2 h) ?_
  intro p e s m args below meth c s₁ X0 hexec hbytes hml hret hlk hnm hown hh0 W hP
  obtain ⟨rfl, hB, f1, f2, hA, s1, hz, l0, l1, l2, hp⟩ := hP
  have a31 := hA.1.2.2.2
  have c1 : Steps p.tables e below (s₁.setTop (entryFrame m #[.ref a, .ref b, .int (Int32.ofNat o), .int (Int32.ofNat len), .null] 6)) (s₁.setTop (mkF m 0 #[.val (.ref a), .val (.ref b), .val (.int (Int32.ofNat o)), .val (.int (Int32.ofNat len)), .val .null, .unset] [])) := entry rfl
  have c2 : Steps p.tables e below (s₁.setTop (entryFrame m #[.ref a, .ref b, .int (Int32.ofNat o), .int (Int32.ofNat len), .null] 6)) (s₁.setTop (mkF m 1 #[.val (.ref a), .val (.ref b), .val (.int (Int32.ofNat o)), .val (.int (Int32.ofNat len)), .val .null, .unset] [.ref a])) := c1.trans (by
    refine XS.aloadN X0.here hexec rfl (hb hbytes d0) rfl rfl ?_
    exact Steps.refl _)
  obtain ⟨T3, X3, q3, st3⟩ := X0.oinit hexec hown (wks W (objW "java/lang/String" 1)) (g := (mkF m 1 #[.val (.ref a), .val (.ref b), .val (.int (Int32.ofNat o)), .val (.int (Int32.ofNat len)), .val .null, .unset] [.ref a])) rfl (by rw [hml]; rfl) (rest := []) rfl (hb hbytes d1) (W := 0) (by show 2 * 0 + 0 ≤ _; decide) (Nat.le_of_ble_eq_true rfl) (Nat.le_of_ble_eq_true rfl)
  have hh3 := q3.trans hh0
  have c4 : Steps p.tables e below (s₁.setTop (entryFrame m #[.ref a, .ref b, .int (Int32.ofNat o), .int (Int32.ofNat len), .null] 6)) (T3.setTop (mkF m 27 #[.val (.ref a), .val (.ref b), .val (.int (Int32.ofNat o)), .val (.int (Int32.ofNat len)), .val .null, .unset] [])) := (c2.trans (st3 _ (Steps.refl _))).trans (by
    refine XS.iloadN X3.here hexec rfl (hb hbytes d4) rfl ?_
    refine XS.ifYes X3.here hexec rfl (pc0 := 5) rfl (hb hbytes d5) rfl (i0_ne_t (nz32 (by omega) l0)) (by decide) rfl ?_
    exact Steps.refl _)
  obtain ⟨T5, X5, q5, st5⟩ := X3.sget hexec hown (wk W (.fieldLink "java/lang/String" 38 "java/lang/String" "COMPACT_STRINGS" "Z")) s1 (fun _ _ h => by rw [hh3]; exact h) (g := (mkF m 27 #[.val (.ref a), .val (.ref b), .val (.int (Int32.ofNat o)), .val (.int (Int32.ofNat len)), .val .null, .unset] [])) rfl (hb hbytes d27)
  have hh5 := q5.trans hh3
  have c6 : Steps p.tables e below (s₁.setTop (entryFrame m #[.ref a, .ref b, .int (Int32.ofNat o), .int (Int32.ofNat len), .null] 6)) (T5.setTop (mkF m 30 #[.val (.ref a), .val (.ref b), .val (.int (Int32.ofNat o)), .val (.int (Int32.ofNat len)), .val .null, .unset] [.int z])) := c4.trans (st5 _ (Steps.refl _))
  have c7 : Steps p.tables e below (s₁.setTop (entryFrame m #[.ref a, .ref b, .int (Int32.ofNat o), .int (Int32.ofNat len), .null] 6)) (T5.setTop (mkF m 36 #[.val (.ref a), .val (.ref b), .val (.int (Int32.ofNat o)), .val (.int (Int32.ofNat len)), .val .null, .unset] [.int (Int32.ofNat len), .int (Int32.ofNat o), .ref b])) := c6.trans (by
    refine XS.ifNo X5.here hexec rfl (hb hbytes d30) rfl (i0_eq_f hz) ?_
    refine XS.aloadN X5.here hexec rfl (hb hbytes d33) rfl rfl ?_
    refine XS.iloadN X5.here hexec rfl (hb hbytes d34) rfl ?_
    refine XS.iloadN X5.here hexec rfl (hb hbytes d35) rfl ?_
    exact Steps.refl _)
  obtain ⟨v8, T8, X8, E8, g8⟩ := X5.callS hexec (Cmp3.law l b A o len) hown (wks W (staticW "java/lang/String" 177 Cmp3.yN)) (wk W Cmp3.tab) (W := 0) (Nat.le_of_ble_eq_true rfl) (Nat.le_of_ble_eq_true rfl) (Nat.le_refl _) (by show 0 + len ≤ len; omega) (g := (mkF m 36 #[.val (.ref a), .val (.ref b), .val (.int (Int32.ofNat o)), .val (.int (Int32.ofNat len)), .val .null, .unset] [.int (Int32.ofNat len), .int (Int32.ofNat o), .ref b])) rfl (by rw [hml]; rfl) c7 (argsL := [.ref b, .int (Int32.ofNat o), .int (Int32.ofNat len)]) (rest := []) rfl rfl (by show 2 * 0 + 0 ≤ _; decide) (hb hbytes d36) (⟨rfl, hA.mv X5.warmed.alike hh5, l1, l2, hp⟩)
  obtain ⟨e8, z8⟩ := E8
  obtain ⟨rfl, N, n1, n2, n3, n4, n5, n6⟩ := NewArr.mv _ T5 s _ _ hh5.symm (Vm.Alike.refl _) rfl e8
  rw [hh5] at z8
  have hB1 := hB.keep X8.warmed.alike (n6 _ _ hB.1)
  have hne : s.heap.size ≠ a := (Nat.ne_of_lt (Array.getElem?_eq_some_iff.mp hB.1).1).symm
  have c9 : Steps p.tables e below (s₁.setTop (entryFrame m #[.ref a, .ref b, .int (Int32.ofNat o), .int (Int32.ofNat len), .null] 6)) (T8.setTop (mkF m 39 #[.val (.ref a), .val (.ref b), .val (.int (Int32.ofNat o)), .val (.int (Int32.ofNat len)), .val .null, .unset] [.ref s.heap.size])) := g8
  have c10 : Steps p.tables e below (s₁.setTop (entryFrame m #[.ref a, .ref b, .int (Int32.ofNat o), .int (Int32.ofNat len), .null] 6)) (T8.setTop (mkF m 45 #[.val (.ref a), .val (.ref b), .val (.int (Int32.ofNat o)), .val (.int (Int32.ofNat len)), .val .null, .val (.ref s.heap.size)] [.int (Int32.ofNat N.slots.size), .ref s.heap.size, .ref a])) := by
    have hc : Steps p.tables e below (s₁.setTop (entryFrame m #[.ref a, .ref b, .int (Int32.ofNat o), .int (Int32.ofNat len), .null] 6)) (T8.setTop (mkF m 45 #[.val (.ref a), .val (.ref b), .val (.int (Int32.ofNat o)), .val (.int (Int32.ofNat len)), .val .null, .val (.ref s.heap.size)] [.int (Int32.ofNat len), .ref s.heap.size, .ref a])) := c9.trans (by
      refine XS.astore X8.here hexec rfl (hb hbytes d39) rfl rfl rfl ?_
      refine XS.aloadN X8.here hexec rfl (hb hbytes d41) rfl rfl ?_
      refine XS.aload X8.here hexec rfl (hb hbytes d42) rfl rfl ?_
      refine XS.iloadN X8.here hexec rfl (hb hbytes d44) rfl ?_
      exact Steps.refl _)
    rw [n4]; exact hc
  obtain ⟨v11, T11, X11, E11, g11⟩ := X8.callS hexec (CodL.law l s.heap.size N) hown (wks W (staticW "java/lang/String" 47 CodL.yN)) (wk W CodL.tab) (W := 1) (Nat.le_of_ble_eq_true rfl) (Nat.le_of_ble_eq_true rfl) (Nat.le_refl _) (by show 0 + len + 0 ≤ len; omega) (g := (mkF m 45 #[.val (.ref a), .val (.ref b), .val (.int (Int32.ofNat o)), .val (.int (Int32.ofNat len)), .val .null, .val (.ref s.heap.size)] [.int (Int32.ofNat N.slots.size), .ref s.heap.size, .ref a])) rfl (by rw [hml]; rfl) c10 (argsL := [.ref s.heap.size, .int (Int32.ofNat N.slots.size)]) (rest := [.ref a]) rfl rfl (by show 2 * 0 + (1 + 0) ≤ _; decide) (hb hbytes d45) (⟨rfl, n1⟩)
  obtain ⟨rfl, q11⟩ := E11
  have hB11 := hB1.mv (X8.warmed.alike.symm.trans X11.warmed.alike) q11
  have c12 : Steps p.tables e below (s₁.setTop (entryFrame m #[.ref a, .ref b, .int (Int32.ofNat o), .int (Int32.ofNat len), .null] 6)) (T11.setTop (mkF m 48 #[.val (.ref a), .val (.ref b), .val (.int (Int32.ofNat o)), .val (.int (Int32.ofNat len)), .val .null, .val (.ref s.heap.size)] [.int 0, .ref a])) := g11
  obtain ⟨T13, X13, p13, bl13, sl13, st13⟩ := X11.finit hexec hown (wk W (.fieldLink "java/lang/String" 15 "java/lang/String" "coder" "B")) (Or.inr ⟨_, (wk W (.laysFinal "java/lang/String" "java/lang/String" "coder" "B"))⟩) (Or.inl ⟨rfl, hnm⟩) f2 (Or.inl rfl) hB11 (t := .byte) (by decide +kernel) rfl (g := (mkF m 48 #[.val (.ref a), .val (.ref b), .val (.int (Int32.ofNat o)), .val (.int (Int32.ofNat len)), .val .null, .val (.ref s.heap.size)] [.int 0, .ref a])) rfl (rest := []) rfl (hb hbytes d48)
  have c14 : Steps p.tables e below (s₁.setTop (entryFrame m #[.ref a, .ref b, .int (Int32.ofNat o), .int (Int32.ofNat len), .null] 6)) (T13.setTop (mkF m 54 #[.val (.ref a), .val (.ref b), .val (.int (Int32.ofNat o)), .val (.int (Int32.ofNat len)), .val .null, .val (.ref s.heap.size)] [.ref s.heap.size, .ref a])) := (c12.trans (st13 _ (Steps.refl _))).trans (by
    refine XS.aloadN X13.here hexec rfl (hb hbytes d51) rfl rfl ?_
    refine XS.aload X13.here hexec rfl (hb hbytes d52) rfl rfl ?_
    exact Steps.refl _)
  obtain ⟨T15, X15, p15, bl15, sl15, st15⟩ := X13.finit hexec hown (wk W (.fieldLink "java/lang/String" 9 "java/lang/String" "value" "[B")) (Or.inr ⟨_, (wk W (.laysFinal "java/lang/String" "java/lang/String" "value" "[B"))⟩) (Or.inl ⟨rfl, hnm⟩) f1 (Or.inl rfl) bl13 (t := (.array .byte)) (by decide +kernel) rfl (g := (mkF m 54 #[.val (.ref a), .val (.ref b), .val (.int (Int32.ofNat o)), .val (.int (Int32.ofNat len)), .val .null, .val (.ref s.heap.size)] [.ref s.heap.size, .ref a])) rfl (rest := []) rfl (hb hbytes d54)
  have c16 : Steps p.tables e below (s₁.setTop (entryFrame m #[.ref a, .ref b, .int (Int32.ofNat o), .int (Int32.ofNat len), .null] 6)) (T15.setTop (mkF m 57 #[.val (.ref a), .val (.ref b), .val (.int (Int32.ofNat o)), .val (.int (Int32.ofNat len)), .val .null, .val (.ref s.heap.size)] [])) := c14.trans (st15 _ (Steps.refl _))
  have ap := apart (Or.inr ⟨_, (wk W (.laysFinal "java/lang/String" "java/lang/String" "value" "[B"))⟩) (Or.inr ⟨_, (wk W (.laysFinal "java/lang/String" "java/lang/String" "coder" "B"))⟩) f1 f2 (t₁ := .array .byte) (t₂ := .byte) (by decide +kernel) (by decide +kernel) (by decide)
  have al := X8.warmed.alike.symm.trans X15.warmed.alike
  have n7 : T11.heap[s.heap.size]? = some N := by rw [q11]; exact n1.1
  exact ⟨T15, none, _, _, _, X15, by simp, rfl, by omega, (fun _ => rfl), ⟨rfl, _, N, bl15, ((Same.refl D _).set _ (by simp)).set _ (by simp), sl15, (Cell.slots_setSlot_ne _ ap).trans sl13, n1.keep al (p15.other hne (p13.other hne n7)), n2, by rw [al.findClass]; exact n3, n4, n5, fun y c h1 h2 => p15.other h1 (p13.other h1 (by rw [q11]; exact n6 y c h2)), by rw [p15.2.2, p13.2.2, q11]; exact z8⟩, fun fs hl => c16.trans (X15.returnOut hexec hret (hb hbytes d57) hl)⟩
end New4
namespace New1
def yN : MethodName := ⟨"java/lang/String", "<init>", "([C)V"⟩
abbrev yB : ByteArray := jdk_42_method_3_code
theorem d0 : decode yB 0 = .ok (.aload_n 0, 1) := by decide +kernel
theorem d1 : decode yB 1 = .ok (.aload_n 1, 1) := by decide +kernel
theorem d2 : decode yB 2 = .ok (.iconst 0, 1) := by decide +kernel
theorem d3 : decode yB 3 = .ok (.aload_n 1, 1) := by decide +kernel
theorem d4 : decode yB 4 = .ok (.arraylength, 1) := by decide +kernel
theorem d5 : decode yB 5 = .ok (.aconst_null, 1) := by decide +kernel
theorem d6 : decode yB 6 = .ok (.invokespecial 27, 3) := by decide +kernel
theorem d9 : decode yB 9 = .ok (.return_, 1) := by decide +kernel
def site : List Cond := [New4.tab] ++ initW "java/lang/String" 27 New4.yN
def tab : Cond := tabOf yN yB 2 none site
def P (a : Addr) (D : Cell) (fV fC : Field) (b : Addr) (A : Cell) (z : Int32) (args : Array Value) (s : State) : Prop := args = #[.ref a, .ref b] ∧ Blank "java/lang/String" a D s ∧ Found "java/lang/String" "value" "[B" fV s ∧ Found "java/lang/String" "coder" "B" fC s ∧ Ch b A s ∧ StaticIs s "java/lang/String" "COMPACT_STRINGS" "Z" (.int z) ∧ ¬ z = 0 ∧ 0 < A.slots.size ∧ A.slots.size ≤ 536870912 ∧ ∀ i, i < A.slots.size → ¬ 255 < cv A i
def E (a : Addr) (D : Cell) (fV fC : Field) (A : Cell) (r : Option Value) (s u : State) : Prop := Got a D fV fC A 0 A.slots.size r s u
/-- new String(chars), not empty, no char above 255: a Latin-1 String of their low bytes -/
theorem law (l : Launch) (a : Addr) (D : Cell) (fV fC : Field) (b : Addr) (A : Cell) (z : Int32) : Law l yN 2 1 3 52 yB 2 none site (P a D fV fC b A z) (E a D fV fC A) [⟨a, fC.slot⟩, ⟨a, fV.slot⟩] 1 A.slots.size := by
  refine Law.of_walk (plainFor_of_name (by decide +kernel)) (by decide +kernel) (by decide +kernel) (by decide) (fun _ _ h => by rw [h.1]; rfl) (fun _ U U' hal hh h => ⟨h.1, h.2.1.mv hal hh, h.2.2.1.al hal, h.2.2.2.1.al hal, h.2.2.2.2.1.mv hal hh, h.2.2.2.2.2.1.there hal hh, h.2.2.2.2.2.2⟩) (fun r U U' V V' h1 hal h2 h => Got.mv r U U' V V' h1 hal h2 h) ?_
  intro p e s m args below meth c s₁ X0 hexec hbytes hml hret hlk hnm hown hh0 W hP
  obtain ⟨rfl, hB, f1, f2, hA, s1, hz, l0, l2, hp⟩ := hP
  have c1 : Steps p.tables e below (s₁.setTop (entryFrame m #[.ref a, .ref b] 2)) (s₁.setTop (mkF m 0 #[.val (.ref a), .val (.ref b)] [])) := entry rfl
  have c2 : Steps p.tables e below (s₁.setTop (entryFrame m #[.ref a, .ref b] 2)) (s₁.setTop (mkF m 6 #[.val (.ref a), .val (.ref b)] [.null, .int (Int32.ofNat A.slots.size), .int 0, .ref b, .ref a])) := c1.trans (by
    refine XS.aloadN X0.here hexec rfl (hb hbytes d0) rfl rfl ?_
    refine XS.aloadN X0.here hexec rfl (hb hbytes d1) rfl rfl ?_
    refine iconstV X0.here hexec rfl 0 (hb hbytes d2) (by decide) ?_
    refine XS.aloadN X0.here hexec rfl (hb hbytes d3) rfl rfl ?_
    refine X0.alen hexec (hA.1.mv X0.warmed.alike hh0) rfl rfl (hb hbytes d4) ?_
    refine XS.aconstNull X0.here hexec rfl (hb hbytes d5) ?_
    exact Steps.refl _)
  obtain ⟨v3, T3, X3, E3, g3⟩ := X0.callN hexec (New4.law l a D fV fC b A z 0 A.slots.size) rfl hown (wks W (initW "java/lang/String" 27 New4.yN)) (W New4.tab (by simp only [site, List.mem_cons, List.mem_append, true_or, or_true])) (W := 0) (Nat.le_of_ble_eq_true rfl) (Nat.le_of_ble_eq_true rfl) (Nat.le_refl _) (by show 0 + A.slots.size ≤ A.slots.size; omega) (g := (mkF m 6 #[.val (.ref a), .val (.ref b)] [.null, .int (Int32.ofNat A.slots.size), .int (Int32.ofNat 0), .ref b, .ref a])) rfl (by rw [hml]; rfl) c2 (argsL := [.ref b, .int (Int32.ofNat 0), .int (Int32.ofNat A.slots.size), .null]) (rest := []) rfl rfl (by show 2 * 0 + 0 ≤ _; decide) (hb hbytes d6) (⟨rfl, hB.mv X0.warmed.alike hh0, f1.al X0.warmed.alike, f2.al X0.warmed.alike, hA.mv X0.warmed.alike hh0, s1.there X0.warmed.alike hh0, hz, l0, by omega, l2, fun i hi => by rw [Nat.zero_add]; exact hp i hi⟩)
  have e0 := Got.mv _ s₁ s _ _ hh0.symm (Vm.Alike.refl _) rfl E3
  obtain rfl := e0.1
  have c4 : Steps p.tables e below (s₁.setTop (entryFrame m #[.ref a, .ref b] 2)) (T3.setTop (mkF m 9 #[.val (.ref a), .val (.ref b)] [])) := g3
  exact ⟨T3, none, _, _, _, X3, by simp, rfl, by omega, (fun _ => rfl), e0, fun fs hl => c4.trans (X3.returnOut hexec hret (hb hbytes d9) hl)⟩
theorem pays {l : Launch} {R : Room} {p : Program} {e : Env} {below : List Frame} {s : State} {sargs : Array Value} {len W : Nat} (a : Addr) (D : Cell) (fV fC : Field) (b : Addr) (A : Cell) (z : Int32) (htab : tab.before sargs s = true) (hfr : 4 ≤ R.frames) (hlo : W + 65 ≤ R.locals) :
    Back l R p e below s sargs yN len W (fun A₁ a₁ => A₁.cells + 1 ≤ R.cells ∧ A₁.slots + A.slots.size ≤ R.slots ∧ P a D fV fC b A z a₁ A₁.U) (fun A₁ _ v₁ B₁ => E a D fV fC A v₁ A₁.U B₁.U ∧ B₁.locs = A₁.locs ++ [⟨a, fC.slot⟩, ⟨a, fV.slot⟩] ∧ B₁.cells = A₁.cells + 1 ∧ B₁.slots = A₁.slots + A.slots.size) :=
  (law l a D fV fC b A z).pays htab hfr (by omega)
end New1
/-- the byte, read back as charAt reads it, is the char -/
theorem lo8_mask {x : Int32} (h0 : ¬ x < 0) (h1 : ¬ 255 < x) : lo8 x &&& 255 = x := by
  have t : ∀ k : Fin 256, lo8 (Int32.ofNat k.val) &&& 255 = Int32.ofNat k.val := by decide +kernel
  rw [Int32.lt_iff_toInt_lt] at h0 h1
  have e0 : (0 : Int32).toInt = 0 := rfl
  have e1 : (255 : Int32).toInt = 255 := rfl
  obtain ⟨k, hk⟩ : ∃ k : Nat, x.toInt = k := ⟨x.toInt.toNat, by omega⟩
  have hx : x = Int32.ofNat k := Int32.toInt_inj.mp (by rw [hk, Int32.toInt_ofNat_small (by omega)])
  rw [hx]
  exact t ⟨k, by omega⟩
end StrChars
namespace StrChars.Road
open Jvm Sem ClassFile Op Lib Jvm.Stand Jvm.Free Jvm.Free.XT
open Jvm.Lib.Cold (StaticIs)
abbrev ST : String := "java/lang/String"
/-- every table word that New1's law asks, flat -/
abbrev words : List Jvm.Cond := [.code New1.yN New1.yB 2 none, .initialized ST, .methodLink ST 27 New4.yN, .instanceMethod New4.yN,
  .code New4.yN New4.yB 6 none, .fieldLink ST 38 ST "COMPACT_STRINGS" "Z", .laysFinal ST ST "value" "[B", .fieldLink ST 9 ST "value" "[B", .laysFinal ST ST "coder" "B", .fieldLink ST 15 ST "coder" "B",
  .methodLink ST 1 Lib.objectInit, .instanceMethod Lib.objectInit, .code Lib.objectInit ⟨#[0xb1]⟩ 1 none, .methodLink ST 177 Cmp3.yN, .static Cmp3.yN, .methodLink ST 47 CodL.yN, .static CodL.yN,
  .code Cmp3.yN Cmp3.yB 6 (some (.array .byte)), .initialized U16, .arrayClass .byte, .methodLink U16 115 Cmp5.yN, .static Cmp5.yN, .code Cmp5.yN Cmp5.yB 7 (some .int), .code CodL.yN CodL.yB 2 (some .byte)]
theorem tab_of {a : Array Value} {s : State} (h : ∀ w ∈ words, w.before a s = true) : New1.tab.before a s = true := by
  have h5 : Cmp5.tab.before a s = true := unparts (wk h (.code Cmp5.yN Cmp5.yB 7 (some .int))) (wks h (.initialized Cmp5.yN.cls :: Cmp5.site))
  have hc : CodL.tab.before a s = true := unparts (wk h (.code CodL.yN CodL.yB 2 (some .byte))) (wks h (.initialized CodL.yN.cls :: CodL.site))
  have q5 : ∀ w ∈ Cmp5.tab :: words, w.before a s = true := fun w hw => (List.mem_cons.mp hw).elim (fun e => e ▸ h5) (h w)
  have h3 : Cmp3.tab.before a s = true := unparts (wk q5 (.code Cmp3.yN Cmp3.yB 6 (some (.array .byte)))) (wks q5 (.initialized Cmp3.yN.cls :: Cmp3.site))
  have q3 : ∀ w ∈ Cmp3.tab :: CodL.tab :: words, w.before a s = true := fun w hw => (List.mem_cons.mp hw).elim (fun e => e ▸ h3) fun hw => (List.mem_cons.mp hw).elim (fun e => e ▸ hc) (h w)
  have h4 : New4.tab.before a s = true := unparts (wk q3 (.code New4.yN New4.yB 6 none)) (wks q3 (.initialized New4.yN.cls :: New4.site))
  have q4 : ∀ w ∈ New4.tab :: words, w.before a s = true := fun w hw => (List.mem_cons.mp hw).elim (fun e => e ▸ h4) (h w)
  exact unparts (wk q4 (.code New1.yN New1.yB 2 none)) (wks q4 (.initialized New1.yN.cls :: New1.site))
/-- the words ride from the start Z to the walk's own state -/
theorem moved {Z s : State} {a0 args : Array Value} (hZ : Z.Warmed39 s.vm) (hw : ∀ d ∈ words, d.before a0 Z = true) : ∀ d ∈ words, d.before args s = true := fun d hd => by
  have q := hw d hd
  have t : ∀ d ∈ words, d = .arrayClass .byte ∨ (d.onTables && d.keepsFace) = true := by decide +kernel
  rcases t d hd with rfl | t
  · exact RoadKit.mvA hZ q
  · exact RoadKit.mv hZ q t
/-- WHAT COMES BACK, over the tables of the start Z: h the heap at the call, h' behind it -/
def Q (Z : State) (x : Addr) (A : Cell) (h : Heap) (v : Option Value) (h' : Heap) (L : List Loc) : Prop := v = none ∧ (∀ y ∈ L, y.base = x) ∧ RoadKit.Keep h h' [x] ∧ h'.size = h.size + 1 ∧ RoadKit.Exa Z h' x ST ∧ RoadKit.Fld Z h' x ST "value" "[B" (.ref h.size) ∧ RoadKit.Fld Z h' x ST "coder" "B" (.int 0) ∧
  (∃ V : Cell, RoadKit.Arr Z h' h.size V .byte ∧ V.vm = .none ∧ Z.vm.findClass "[B" = some V.cls ∧ V.slots.size = A.slots.size ∧ ∀ j, j < A.slots.size → V.slots[j]? = some (.int (lo8 (cv A j)))) ∧
  ∀ (O n d : String) (w : Value), RoadKit.Fld Z h x O n d w → RoadKit.slotOf Z O n d ≠ RoadKit.slotOf Z ST "value" "[B" → RoadKit.slotOf Z O n d ≠ RoadKit.slotOf Z ST "coder" "B" → RoadKit.Fld Z h' x O n d w
/-- **new String(chars) AT A CALL, IN THE ROAD'S FORM**: for specialBack behind newO: x the fresh String, b the char[] with the cell A -/
theorem back {p : Program} {l : Launch} {e : Env} {R : Room} {s : State} {args : Array Value} {below : List Frame} {len W : Nat} {Z : State} {a0 : Array Value} {h : Heap} (hZ : Z.Warmed39 s.vm) (hw : ∀ d ∈ words, d.before a0 Z = true) {kI : Nat} (wi : (Jvm.Cond.instantiable ST kI).before a0 Z = true)
    {x b : Addr} {A : Cell} {z : Int32} {v0 c0 : Value} (E : RoadKit.Exa Z h x ST) (V : RoadKit.Fld Z h x ST "value" "[B" v0) (C : RoadKit.Fld Z h x ST "coder" "B" c0) (K : RoadKit.Arr Z h b A .char) (hty : Typed .char A) (S : RoadKit.Sta Z h ST "COMPACT_STRINGS" "Z" (.int z)) (hz : ¬ z = 0)
    (l0 : 0 < A.slots.size) (l2 : A.slots.size ≤ 536870912) (hp : ∀ i, i < A.slots.size → ¬ 255 < cv A i) (hfr : 4 ≤ R.frames) (hlo : W + 65 ≤ R.locals) :
    Back l R p e below s args New1.yN len W (fun P a => a = #[.ref x, .ref b] ∧ P.U.heap = h ∧ P.cells + 1 ≤ R.cells ∧ P.slots + A.slots.size ≤ R.slots)
      (fun P _ v B => ∃ L, Q Z x A h v B.U.heap L ∧ B.locs = P.locs ++ L ∧ B.cells = P.cells + 1 ∧ B.slots = P.slots + A.slots.size) := by
  intro m meth c P g ig mk a X hg hsize hdg hW hn hp'
  obtain ⟨rfl, rfl, r1, r2⟩ := hp'
  have al : Z.vm.Alike P.U.vm := hZ.alike.trans X.warmed.alike
  obtain ⟨D, cfV, kV, iV, fV, hD, gV, stV, knV, obV, asV, slV⟩ := id V
  obtain ⟨D', cfC, kC, iC, fC, hD', gC, stC, -, -, asC, slC⟩ := id C
  cases hD.symm.trans hD'
  obtain ⟨D2, kD, e1, e2, e3, e4, e5⟩ := id E
  cases hD.symm.trans e1
  obtain ⟨c2, k2, i1, i2, i3, -⟩ := Cond.instantiable_spec wi
  cases e2.symm.trans i1
  cases e3.symm.trans i2
  obtain ⟨kU, u1, u2⟩ := al.2.2 _ _ e3
  have hB : Blank ST x D P.U := ⟨hD, ⟨knV, fun q hq => by rw [hq] at obV; cases obV⟩, by rw [al.findClass]; exact e2, kU, u1, by rw [u2]; exact i3, by rw [u2]; exact e5 i3⟩
  have F1 : Found ST "value" "[B" fV P.U := ⟨SBG.found_only al ⟨cfV, kV, iV, gV⟩, stV⟩
  have F2 : Found ST "coder" "B" fC P.U := ⟨SBG.found_only al ⟨cfC, kC, iC, gC⟩, stC⟩
  have hA : Ch b A P.U := ⟨⟨K.1, State.isArrayOf_alike al K.2.1, K.2.2, by omega⟩, hty⟩
  have hS : StaticIs P.U ST "COMPACT_STRINGS" "Z" (.int z) := by
    obtain ⟨cfS, iS, kS, fS, st, cS, t1, t2, t3, t4, t5, t6, t7⟩ := S
    exact StaticIs.there (s := { Z with heap := P.U.heap }) ⟨cfS, iS, kS, fS, st, cS, t1, t2, t3, t4, t5, (fun q => by rw [q] at t6; cases t6), t7⟩ al rfl
  obtain ⟨v, B, X', ⟨⟨hv, E', V', q1, q2, q3, q4, q5, q6, q7, q8, q9, q10, q11⟩, hl, hc, hs⟩, st⟩ := New1.pays x D fV fC b A z (tab_of (moved hZ hw)) hfr hlo m meth c P g ig mk _ X hg hsize hdg hW hn ⟨r1, r2, rfl, hB, F1, F2, hA, hS, hz, l0, l2, hp⟩
  have al' : Z.vm.Alike B.U.vm := hZ.alike.trans X'.warmed.alike
  have hsz : E'.slots.size = D.slots.size := by
    obtain ⟨-, -, -, kB, w1, w2, w3⟩ := q1
    obtain ⟨kB', y1, y2⟩ := al'.2.2 _ _ e3
    rw [q2.2.1] at w1
    cases w1.symm.trans y1
    rw [w3, e5 i3, y2]
  refine ⟨v, B, X', ⟨_, ⟨hv, ?_, ⟨by omega, fun y cy hy hn' => q10 y cy (by simpa using hn') hy, fun y cy hy => ?_⟩, q11, ⟨E', _, q1.1, by rw [q2.2.1]; exact e2, by rw [q2.2.1]; exact e3, by rw [q2.1]; exact obV, fun _ => by rw [hsz]; exact e5 i3⟩,
    ⟨E', cfV, kV, iV, fV, q1.1, gV, stV, by rw [q2.1]; exact knV, by rw [q2.1]; exact obV, by rw [q2.2.1]; exact asV, q3⟩, ⟨E', cfC, kC, iC, fC, q1.1, gC, stC, by rw [q2.1]; exact knV, by rw [q2.1]; exact obV, by rw [q2.2.1]; exact asC, q4⟩,
    ⟨V', ⟨q5.1, State.isArrayOf_alike al'.symm q5.2.1, q5.2.2.1⟩, q6, by rw [← al'.findClass]; exact q7, q8, fun j hj => by have := q9 j hj; rwa [Nat.zero_add] at this⟩, fun O n d w F n1 n2 => ?_⟩, hl, hc, hs⟩, st⟩
  · intro y hy
    simp only [List.mem_cons, List.not_mem_nil, or_false] at hy
    rcases hy with rfl | rfl <;> rfl
  · by_cases q : y = x
    · subst q
      cases hD.symm.trans hy
      exact ⟨E', q1.1, q2.2.1, q2.1, hsz⟩
    · exact ⟨cy, q10 y cy q hy, rfl, rfl, rfl⟩
  · obtain ⟨D3, cf, k, i, f, g1, g2, g3, g4, g5, g6, g7⟩ := F
    cases hD.symm.trans g1
    simp only [RoadKit.slotOf, g2, gV, gC, Option.map_some, Option.getD_some] at n1 n2
    exact ⟨E', cf, k, i, f, q1.1, g2, g3, by rw [q2.1]; exact g4, by rw [q2.1]; exact g5, by rw [q2.2.1]; exact g6, by rw [q2.2.2 f.slot (by simp [n1, n2])]; exact g7⟩
end StrChars.Road
namespace StrChars.Road
open Jvm Sem ClassFile Op Lib Jvm.Stand Jvm.Free Jvm.Free.XT
/-- WHAT COMES BACK, the byte[] as a list of values -/
def QA (Z : State) (x : Addr) (zn : Int32) (cs : List Int32) (h : Heap) (v : Option Value) (h' : Heap) (L : List Loc) : Prop := v = none ∧ (∀ y ∈ L, y.base = x) ∧ RoadKit.Keep h h' [x] ∧ h'.size = h.size + 1 ∧ RoadKit.Exa Z h' x ST ∧ RoadKit.Fld Z h' x ST "value" "[B" (.ref h.size) ∧ RoadKit.Fld Z h' x ST "coder" "B" (.int 0) ∧
  (∃ kb, Z.vm.findClass "[B" = some kb ∧ RoadKit.Arv Z h' h.size kb .byte zn (cs.map fun c => .int (lo8 c)) (.int 0)) ∧
  ∀ (O n d : String) (w : Value), RoadKit.Fld Z h x O n d w → RoadKit.slotOf Z O n d ≠ RoadKit.slotOf Z ST "value" "[B" → RoadKit.slotOf Z O n d ≠ RoadKit.slotOf Z ST "coder" "B" → RoadKit.Fld Z h' x O n d w
/-- **new String(chars) AT A CALL, THE ARRAYS AS LISTS**: the char[] at b holds cs, not empty, no char above 255 -/
theorem backArv {p : Program} {l : Launch} {e : Env} {R : Room} {s : State} {args : Array Value} {below : List Frame} {len W : Nat} {Z : State} {a0 : Array Value} {h : Heap} (hZ : Z.Warmed39 s.vm) (hw : ∀ d ∈ words, d.before a0 Z = true) {kI : Nat} (wi : (Jvm.Cond.instantiable ST kI).before a0 Z = true)
    {x b : Addr} {k : ClassId} {zn z : Int32} {cs : List Int32} {dv v0 c0 : Value} (E : RoadKit.Exa Z h x ST) (V : RoadKit.Fld Z h x ST "value" "[B" v0) (C : RoadKit.Fld Z h x ST "coder" "B" c0) (K : RoadKit.Arv Z h b k .char zn (cs.map Value.int) dv) (S : RoadKit.Sta Z h ST "COMPACT_STRINGS" "Z" (.int z)) (hz : ¬ z = 0)
    (hlen : zn.toNatClampNeg = cs.length) (h0 : 0 < cs.length) (hbig : cs.length ≤ 536870912) (hall : ∀ c ∈ cs, ¬ 255 < c) (hfr : 4 ≤ R.frames) (hlo : W + 65 ≤ R.locals) :
    Back l R p e below s args New1.yN len W (fun P a => a = #[.ref x, .ref b] ∧ P.U.heap = h ∧ P.cells + 1 ≤ R.cells ∧ P.slots + cs.length ≤ R.slots)
      (fun P _ v B => ∃ L, QA Z x zn cs h v B.U.heap L ∧ B.locs = P.locs ++ L ∧ B.cells = P.cells + 1 ∧ B.slots = P.slots + cs.length) := by
  obtain ⟨A, K1, K2, K3, K4, K5, K6⟩ := K
  have e : A.slots.size = cs.length := K3.trans hlen
  have hat : ∀ (i : Nat) (hi : i < cs.length), A.slots[i]? = some (.int cs[i]) := fun i hi => by rw [K5 i (by omega)]; simp [List.getD_eq_getElem?_getD, hi]
  have hcv : ∀ (i : Nat) (hi : i < cs.length), cv A i = cs[i] := fun i hi => by unfold cv; rw [hat i hi]
  have hty : Typed .char A := fun i v hv => by
    have hi : i < A.slots.size := (Array.getElem?_eq_some_iff.mp hv).1
    have q := K5 i hi
    rw [hv] at q
    rw [Option.some.inj q]
    exact K6 i hi
  refine Back.mono (back hZ hw wi E V C K1 hty S hz (by omega) (by omega) (fun i hi => by rw [hcv i (by omega)]; exact hall _ (List.getElem_mem _)) hfr hlo) (fun P a hp => ⟨hp.1, hp.2.1, hp.2.2.1, by rw [e]; exact hp.2.2.2⟩) (fun P a v B hp hq => ?_)
  obtain ⟨L, ⟨q1, q2, q3, q4, q5, q6, q7, ⟨V', v1, v2, v3, v4, v5⟩, q9⟩, hl, hc, hs⟩ := hq
  refine ⟨L, ⟨q1, q2, q3, q4, q5, q6, q7, ⟨V'.cls, v3, V', v1, rfl, by rw [v4, e, hlen], K4, fun i hi => ?_, fun i hi => ?_⟩, q9⟩, hl, hc, by rw [hs, e]⟩
  · have hi' : i < cs.length := by omega
    rw [v5 i (by omega), hcv i hi']; simp [List.getD_eq_getElem?_getD, hi']
  · have hi' : i < cs.length := by omega
    simp only [List.getD_eq_getElem?_getD, List.getElem?_map, List.getElem?_eq_getElem hi', Option.map_some, Option.getD_some]
    exact fits_lo8 _
end StrChars.Road
namespace StrChars.Road
open Jvm Sem ClassFile Op Lib Jvm.Stand Jvm.Free Jvm.Free.XT
/-- WHAT COMES BACK, in the writer's own shape -/
def QV (Z : State) (x : Addr) (N : Int32) (bs : List Int32) (h : Heap) (n0 : Nat) (v : Option Value) (h' : Heap) (L : List Loc) : Prop := v = none ∧ RoadKit.Fr n0 L ∧ RoadKit.Keep h h' [x] ∧ RoadKit.Exa Z h' x ST ∧ RoadKit.Fld Z h' x ST "coder" "B" (.int 0) ∧
  ∃ (t : Addr) (kb : ClassId), n0 ≤ t ∧ h.size ≤ t ∧ ¬ t = x ∧ RoadKit.Fld Z h' x ST "value" "[B" (.ref t) ∧ RoadKit.Arv Z h' t kb .byte N (bs.map Value.int) (.int 0)
/-- **new String(chars) AT A CALL, FOR THE WRITER**: a char[] of n known ints, each 0 to 255 -/
theorem backV {p : Program} {l : Launch} {e : Env} {R : Room} {s : State} {args : Array Value} {below : List Frame} {len W : Nat} {Z : State} {a0 : Array Value} {h : Heap} (hZ : Z.Warmed39 s.vm) (hw : ∀ d ∈ words, d.before a0 Z = true) {kI : Nat} (wi : (Jvm.Cond.instantiable ST kI).before a0 Z = true)
    {x b : Addr} {kC : ClassId} {cs bs : List Int32} {d v0 c0 : Value} {z N : Int32} {n n0 : Nat} (hx0 : n0 ≤ x) (hh0 : n0 ≤ h.size) (E : RoadKit.Exa Z h x ST) (V : RoadKit.Fld Z h x ST "value" "[B" v0) (C : RoadKit.Fld Z h x ST "coder" "B" c0) (K : RoadKit.Arv Z h b kC .char N (cs.map Value.int) d) (S : RoadKit.Sta Z h ST "COMPACT_STRINGS" "Z" (.int z)) (hz : ¬ z = 0)
    (hn : cs.length = n) (hN : N = Int32.ofNat n) (l0 : 0 < n) (l2 : n ≤ 4000) (hp : ∀ c ∈ cs, ¬ c < 0 ∧ ¬ (255 : Int32) < c) (hb : bs = cs.map (fun c => c.toInt8.toInt32)) (hfr : 4 ≤ R.frames) (hlo : W + 65 ≤ R.locals) :
    Back l R p e below s args (⟨"java/lang/String", "<init>", "([C)V"⟩ : MethodName) len W (fun P a => a = #[.ref x, .ref b] ∧ P.U.heap = h ∧ P.cells + 1 ≤ R.cells ∧ P.slots + n ≤ R.slots)
      (fun P _ v B => ∃ L, QV Z x N bs h n0 v B.U.heap L ∧ B.locs = P.locs ++ L ∧ B.cells = P.cells + 1 ∧ B.slots = P.slots + n) := by
  subst hn hN hb
  refine Back.mono (backArv hZ hw wi E V C K S hz (n32 (by omega)) l0 (by omega) (fun c hc => (hp c hc).2) hfr hlo) (fun P a hp => hp) (fun P a v B hp hq => ?_)
  obtain ⟨L, ⟨q1, q2, q3, q4, q5, q6, q7, ⟨kb, v1, v2⟩, q9⟩, hl, hc, hs⟩ := hq
  exact ⟨L, ⟨q1, fun y hy => by rw [q2 y hy]; exact hx0, q3, q5, q7, h.size, kb, hh0, Nat.le_refl _, Nat.ne_of_gt E.lt, q6, by rw [List.map_map]; exact v2⟩, hl, hc, hs⟩
end StrChars.Road
namespace StrChars
open Jvm Sem ClassFile Op Lib Jvm.Stand Jvm.Free.XT Jvm.Free.ALB Jvm.Free.JM Jvm.Free
open Jvm.Lib.Cold (StaticIs)
def hi8 (x : Int32) : Int32 := lo8 (x >>> ((8 : Int32) &&& 31))
/-- what StringUTF16.getChar makes of two bytes -/
def pairCh (u v : Int32) : Int32 := (((u &&& 255) <<< ((0 : Int32) &&& 31)) ||| ((v &&& 255) <<< ((8 : Int32) &&& 31))).toUInt32.toUInt16.toUInt32.toInt32
theorem lo8_and (x : Int32) : (lo8 x &&& 255).toBitVec.toNat = x.toBitVec.toNat % 256 := by
  have h : (lo8 x).toBitVec = (x.toBitVec.signExtend 8).signExtend 32 := by rw [lo8, Int8.toBitVec_toInt32, Int32.toBitVec_toInt8]
  rw [Int32.toBitVec_and, BitVec.toNat_and, h]
  have e : ((x.toBitVec.signExtend 8).signExtend 32).toNat % 256 = x.toBitVec.toNat % 256 := by
    rw [BitVec.toNat_signExtend]
    have hlt := x.toBitVec.isLt
    simp only [BitVec.toNat_setWidth, BitVec.toNat_signExtend]
    split <;> split <;> omega
  rw [← e]
  exact Nat.and_two_pow_sub_one_eq_mod _ 8
theorem pair_says {c : Int32} (h0 : ¬ c < 0) (h1 : ¬ 65535 < c) : pairCh (lo8 c) (hi8 c) = c := by
  rw [Int32.lt_iff_toInt_lt] at h0 h1
  have e0 : (0 : Int32).toInt = 0 := rfl
  have e1 : (65535 : Int32).toInt = 65535 := rfl
  have hc : c.toInt = c.toBitVec.toNat := by
    have := c.toBitVec.isLt
    have e : c.toInt = c.toBitVec.toInt := rfl
    rw [e] at h0 h1
    rw [e]
    rw [BitVec.toInt_eq_toNat_cond] at h0 h1 ⊢
    split at h0 <;> split <;> omega
  have hn : c.toBitVec.toNat < 65536 := by omega
  have a1 := lo8_and c
  have a2 : (hi8 c &&& 255).toBitVec.toNat = c.toBitVec.toNat / 256 := by
    rw [hi8, lo8_and]
    have e : ((8 : Int32) &&& 31) = 8 := by decide
    rw [e, Int32.toBitVec_shiftRight]
    have e2 : ((8 : Int32).toBitVec.smod 32) = 8#32 := by decide
    rw [e2, BitVec.sshiftRight_eq', BitVec.toNat_sshiftRight_of_msb_false (by rw [BitVec.msb_eq_false_iff_two_mul_lt]; omega)]
    show c.toBitVec.toNat >>> 8 % 256 = _
    rw [Nat.shiftRight_eq_div_pow]
    omega
  unfold pairCh
  apply Int32.toBitVec_inj.mp
  apply BitVec.eq_of_toNat_eq
  have f0 : ((0 : Int32) &&& 31) = 0 := by decide
  have f8 : ((8 : Int32) &&& 31) = 8 := by decide
  rw [f0, f8]
  have g : (((lo8 c &&& 255) <<< (0 : Int32)) ||| ((hi8 c &&& 255) <<< (8 : Int32))).toBitVec.toNat = c.toBitVec.toNat := by
    rw [Int32.toBitVec_or, Int32.toBitVec_shiftLeft, Int32.toBitVec_shiftLeft]
    have s0 : ((0 : Int32).toBitVec.smod 32) = 0#32 := by decide
    have s8 : ((8 : Int32).toBitVec.smod 32) = 8#32 := by decide
    rw [s0, s8, BitVec.toNat_or]
    simp only [BitVec.shiftLeft_eq', BitVec.toNat_shiftLeft, a1, a2]
    show (c.toBitVec.toNat % 256) <<< 0 % 2 ^ 32 ||| (c.toBitVec.toNat / 256) <<< 8 % 2 ^ 32 = _
    rw [Nat.shiftLeft_zero, Nat.mod_eq_of_lt (show c.toBitVec.toNat % 256 < 2 ^ 32 by omega), Nat.mod_eq_of_lt (show (c.toBitVec.toNat / 256) <<< 8 < 2 ^ 32 by rw [Nat.shiftLeft_eq]; omega), Nat.or_comm, ← Nat.shiftLeft_add_eq_or_of_lt (by omega), Nat.shiftLeft_eq]
    omega
  show BitVec.toNat (((((lo8 c &&& 255) <<< (0 : Int32)) ||| ((hi8 c &&& 255) <<< (8 : Int32))).toBitVec.setWidth 16).setWidth 32) = _
  rw [BitVec.toNat_setWidth, BitVec.toNat_setWidth, g]
  omega
end StrChars
namespace StrChars
open Jvm Sem ClassFile Op Lib Jvm.Stand Jvm.Free.XT Jvm.Free.ALB Jvm.Free.JM Jvm.Free
open Jvm.Lib.Cold (StaticIs)
/-- the array's cell V codes the n chars f 0 .. f (n - 1) by the coder cd, as the JDK does: coder 1 just where some char is above 255 -/
def Cod (cd : Int32) (n : Nat) (f : Nat → Int32) (V : Cell) : Prop := (cd = 0 ∧ V.slots.size = n ∧ ∀ j, j < n → V.slots[j]? = some (.int (lo8 (f j))) ∧ ¬ 255 < f j) ∨ (cd = 1 ∧ V.slots.size = 2 * n ∧ (∀ j, j < n → V.slots[2 * j]? = some (.int (lo8 (f j))) ∧ V.slots[2 * j + 1]? = some (.int (hi8 (f j)))) ∧ ∃ j, j < n ∧ 255 < f j)
/-- **x is a String of the n chars f 0 .. f (n - 1)**, Latin-1 or UTF-16; its array at t has the cell V -/
def Txt (x t : Addr) (V : Cell) (cd : Int32) (n : Nat) (f : Nat → Int32) (U : State) : Prop := Exact "java/lang/String" x U ∧ Has x "java/lang/String" "value" "[B" (.ref t) U ∧ Has x "java/lang/String" "coder" "B" (.int cd) U ∧ XT.Arr .byte t V U ∧ Cod cd n f V ∧ ∀ j, j < n → ¬ f j < 0 ∧ ¬ 65535 < f j
theorem Txt.mv {x t : Addr} {V : Cell} {cd : Int32} {n : Nat} {f : Nat → Int32} {U U' : State} (h : Txt x t V cd n f U) (hal : U.vm.Alike U'.vm) (hh : U'.heap = U.heap) : Txt x t V cd n f U' := ⟨h.1.mv hal hh, h.2.1.mv hal hh, h.2.2.1.mv hal hh, h.2.2.2.1.mv hal hh, h.2.2.2.2⟩
end StrChars
namespace StrChars.Road
open Jvm Sem ClassFile Op Lib Jvm.Stand Jvm.Free Jvm.Free.XT
open Jvm.Lib.Cold (StaticIs)
theorem consq {a : Array Value} {s : State} {c : Jvm.Cond} {L : List Jvm.Cond} (h0 : c.before a s = true) (h : ∀ w ∈ L, w.before a s = true) : ∀ w ∈ c :: L, w.before a s = true := fun w hw => (List.mem_cons.mp hw).elim (fun e => e ▸ h0) (h w)
/-- the bytes of the chars cs, low before high -/
def wideBytes : List Int32 → List Value
  | [] => []
  | c :: cs => .int (lo8 c) :: .int (hi8 c) :: wideBytes cs
theorem wide_lo (d : Value) : ∀ (cs : List Int32) (j : Nat), j < cs.length → (wideBytes cs).getD (2 * j) d = .int (lo8 (cs.getD j 0))
  | [], j, h => absurd h (Nat.not_lt_zero j)
  | c :: cs, 0, _ => rfl
  | c :: cs, j + 1, h => by
    have q := wide_lo d cs j (by simpa using h)
    rw [show 2 * (j + 1) = 2 * j + 1 + 1 from by omega]
    simpa [wideBytes] using q
theorem wide_hi (d : Value) : ∀ (cs : List Int32) (j : Nat), j < cs.length → (wideBytes cs).getD (2 * j + 1) d = .int (hi8 (cs.getD j 0))
  | [], j, h => absurd h (Nat.not_lt_zero j)
  | c :: cs, 0, _ => rfl
  | c :: cs, j + 1, h => by
    have q := wide_hi d cs j (by simpa using h)
    rw [show 2 * (j + 1) + 1 = 2 * j + 1 + 1 + 1 from by omega]
    simpa [wideBytes] using q
theorem low_at (d : Value) (cs : List Int32) (j : Nat) (h : j < cs.length) : (cs.map fun c => Value.int (lo8 c)).getD j d = .int (lo8 (cs.getD j 0)) := by
  simp [List.getD_eq_getElem?_getD, h]
/-- an array of N2 bytes vs codes the chars cs by the coder cd -/
def CodA (cs : List Int32) (cd N2 : Int32) (vs : List Value) : Prop := (cd = 0 ∧ N2 = Int32.ofNat cs.length ∧ vs = (cs.map fun c => Value.int (lo8 c)) ∧ ∀ c ∈ cs, ¬ 255 < c) ∨ (cd = 1 ∧ N2 = Int32.ofNat (2 * cs.length) ∧ vs = wideBytes cs ∧ ∃ c ∈ cs, 255 < c)
theorem CodA.cod {cs : List Int32} {cd N2 : Int32} {vs : List Value} {V : Cell} (h : CodA cs cd N2 vs) (hn : 2 * cs.length < 2 ^ 31) (hs : V.slots.size = N2.toNatClampNeg) (hv : RoadKit.Has V vs (.int 0)) : Cod cd cs.length (fun j => cs.getD j 0) V := by
  rcases h with ⟨rfl, rfl, rfl, h⟩ | ⟨rfl, rfl, rfl, c, hc, hw⟩
  · rw [n32 (by omega)] at hs
    exact Or.inl ⟨rfl, hs, fun j hj => ⟨by rw [hv j (by omega), low_at _ _ _ hj], by
      have e : cs.getD j 0 = cs[j] := by simp [List.getD_eq_getElem?_getD, hj]
      show ¬ 255 < cs.getD j 0
      rw [e]; exact h _ (List.getElem_mem _)⟩⟩
  · rw [n32 (by omega)] at hs
    obtain ⟨j, hj, rfl⟩ := List.getElem_of_mem hc
    exact Or.inr ⟨rfl, hs, fun j hj => ⟨by rw [hv _ (by omega), wide_lo _ _ _ hj], by rw [hv _ (by omega), wide_hi _ _ _ hj]⟩, j, hj, by
      have e : cs.getD j 0 = cs[j] := by simp [List.getD_eq_getElem?_getD, hj]
      show 255 < cs.getD j 0
      rw [e]; exact hw⟩
/-- an object of exactly java/lang/String, its two fields found: as the laws ask it -/
theorem strObj {Z U : State} {a0 : Array Value} {kI : Nat} (wi : (Jvm.Cond.instantiable ST kI).before a0 Z = true) (al : Z.vm.Alike U.vm) {x : Addr} {v0 c0 : Value} (E : RoadKit.Exa Z U.heap x ST) (V : RoadKit.Fld Z U.heap x ST "value" "[B" v0) (C : RoadKit.Fld Z U.heap x ST "coder" "B" c0) :
    ∃ (D : Cell) (fV fC : Field), Blank ST x D U ∧ Found ST "value" "[B" fV U ∧ Found ST "coder" "B" fC U ∧ D.slots[fV.slot]? = some v0 ∧ D.slots[fC.slot]? = some c0 ∧ RoadKit.slotOf Z ST "value" "[B" = fV.slot ∧ RoadKit.slotOf Z ST "coder" "B" = fC.slot := by
  obtain ⟨D, cfV, kV, iV, fV, hD, gV, stV, knV, obV, asV, slV⟩ := V
  obtain ⟨D', cfC, kC, iC, fC, hD', gC, stC, -, -, asC, slC⟩ := C
  cases hD.symm.trans hD'
  obtain ⟨D2, kD, e1, e2, e3, e4, e5⟩ := E
  cases hD.symm.trans e1
  obtain ⟨c2, k2, i1, i2, i3, -⟩ := Cond.instantiable_spec wi
  cases e2.symm.trans i1
  cases e3.symm.trans i2
  obtain ⟨kU, u1, u2⟩ := al.2.2 _ _ e3
  exact ⟨D, fV, fC, ⟨hD, ⟨knV, fun q hq => by rw [hq] at obV; cases obV⟩, by rw [al.findClass]; exact e2, kU, u1, by rw [u2]; exact i3, by rw [u2]; exact e5 i3⟩, ⟨SBG.found_only al ⟨cfV, kV, iV, gV⟩, stV⟩, ⟨SBG.found_only al ⟨cfC, kC, iC, gC⟩, stC⟩, slV, slC, by simp [RoadKit.slotOf, gV], by simp [RoadKit.slotOf, gC]⟩
theorem sta_is {Z U : State} (al : Z.vm.Alike U.vm) {C n d : String} {v : Value} (S : RoadKit.Sta Z U.heap C n d v) : StaticIs U C n d v := by
  obtain ⟨cfS, iS, kS, fS, st, cS, t1, t2, t3, t4, t5, t6, t7⟩ := S
  exact StaticIs.there (s := { Z with heap := U.heap }) ⟨cfS, iS, kS, fS, st, cS, t1, t2, t3, t4, t5, (fun q => by rw [q] at t6; cases t6), t7⟩ al rfl
end StrChars.Road
namespace StrChars
open Jvm Sem ClassFile Op Lib Jvm.Stand Jvm.Free.XT Jvm.Free.ALB Jvm.Free.JM Jvm.Free
open Jvm.Lib.Cold (StaticIs)
/-- what place i of a byte[]'s cell holds -/
def yv (A : Cell) (i : Nat) : Int32 := match A.slots[i]? with | some (.int x) => x | _ => 0
theorem yv_get {a : Addr} {A : Cell} {U : State} (h : XT.Arr .byte a A U) (ht : Typed .byte A) {i : Nat} (hi : i < A.slots.size) : A.slots[i]? = some (.int (yv A i)) := by
  have e := Array.getElem?_eq_getElem hi
  have f := ht i _ e
  unfold yv; rw [e]
  generalize A.slots[i] = v at f
  cases v <;> simp [fits] at f ⊢
/-- the two arrays are equal, place for place -/
def EqC (A B : Cell) : Prop := A.slots.size = B.slots.size ∧ ∀ i, i < A.slots.size → yv A i = yv B i
/-- a boolean that says whether p -/
def Says01 (q : Prop) (r : Option Value) (s u : State) : Prop := ∃ v : Int32, r = some (.int v) ∧ u.heap = s.heap ∧ ((v = 1 ∧ q) ∨ (v = 0 ∧ ¬ q))
theorem Says01.mv {q : Prop} : ∀ r (U U' V V' : State), U'.heap = U.heap → V.vm.Alike V'.vm → V'.heap = V.heap → Says01 q r U V → Says01 q r U' V' :=
  fun r U U' V V' h1 _ h2 ⟨v, a, b, c⟩ => ⟨v, a, by rw [h1, h2]; exact b, c⟩
namespace LEq
def yN : MethodName := ⟨"java/lang/StringLatin1", "equals", "([B[B)Z"⟩
abbrev yB : ByteArray := jdk_43_method_13_code
theorem d0 : decode yB 0 = .ok (.aload_n 0, 1) := by decide +kernel
theorem d1 : decode yB 1 = .ok (.arraylength, 1) := by decide +kernel
theorem d2 : decode yB 2 = .ok (.aload_n 1, 1) := by decide +kernel
theorem d3 : decode yB 3 = .ok (.arraylength, 1) := by decide +kernel
theorem d4 : decode yB 4 = .ok (.if_icmp (.ne) 30, 3) := by decide +kernel
theorem d7 : decode yB 7 = .ok (.iconst 0, 1) := by decide +kernel
theorem d8 : decode yB 8 = .ok (.istore_n 2, 1) := by decide +kernel
theorem d9 : decode yB 9 = .ok (.iload_n 2, 1) := by decide +kernel
theorem d10 : decode yB 10 = .ok (.aload_n 0, 1) := by decide +kernel
theorem d11 : decode yB 11 = .ok (.arraylength, 1) := by decide +kernel
theorem d12 : decode yB 12 = .ok (.if_icmp (.ge) 20, 3) := by decide +kernel
theorem d15 : decode yB 15 = .ok (.aload_n 0, 1) := by decide +kernel
theorem d16 : decode yB 16 = .ok (.iload_n 2, 1) := by decide +kernel
theorem d17 : decode yB 17 = .ok (.baload, 1) := by decide +kernel
theorem d18 : decode yB 18 = .ok (.aload_n 1, 1) := by decide +kernel
theorem d19 : decode yB 19 = .ok (.iload_n 2, 1) := by decide +kernel
theorem d20 : decode yB 20 = .ok (.baload, 1) := by decide +kernel
theorem d21 : decode yB 21 = .ok (.if_icmp (.eq) 5, 3) := by decide +kernel
theorem d24 : decode yB 24 = .ok (.iconst 0, 1) := by decide +kernel
theorem d25 : decode yB 25 = .ok (.ireturn, 1) := by decide +kernel
theorem d26 : decode yB 26 = .ok (.iinc 2 1, 3) := by decide +kernel
theorem d29 : decode yB 29 = .ok (.goto (-20), 3) := by decide +kernel
theorem d32 : decode yB 32 = .ok (.iconst 1, 1) := by decide +kernel
theorem d33 : decode yB 33 = .ok (.ireturn, 1) := by decide +kernel
theorem d34 : decode yB 34 = .ok (.iconst 0, 1) := by decide +kernel
theorem d35 : decode yB 35 = .ok (.ireturn, 1) := by decide +kernel
def site : List Cond := []
def tab : Cond := tabOf yN yB 3 (some .boolean) site
def P (a : Addr) (A : Cell) (b : Addr) (B : Cell) (args : Array Value) (s : State) : Prop := args = #[.ref a, .ref b] ∧ XT.Arr .byte a A s ∧ Typed .byte A ∧ XT.Arr .byte b B s ∧ Typed .byte B
/-- whether two byte[] are equal, place for place -/
theorem law (l : Launch) (a : Addr) (A : Cell) (b : Addr) (B : Cell) : Law l yN 2 2 0 0 yB 3 (some .boolean) site (P a A b B) (Says01 (EqC A B)) [] 0 0 := by
  refine Law.of_walk (plainFor_of_name (by decide +kernel)) (by decide +kernel) (by decide +kernel) (by decide) (fun _ _ h => by rw [h.1]; rfl) (fun _ U U' hal hh h => ⟨h.1, h.2.1.mv hal hh, h.2.2.1, h.2.2.2.1.mv hal hh, h.2.2.2.2⟩) (fun r U U' V V' h1 hal h2 h => Says01.mv r U U' V V' h1 hal h2 h) ?_
  intro p e s m args below meth c s₁ X0 hexec hbytes hml hret hlk hnm hown hh0 W hP
  obtain ⟨rfl, hA, tA, hB, tB⟩ := hP
  have a31 := hA.2.2.2
  have b31 := hB.2.2.2
  have hA0 := hA.mv X0.warmed.alike hh0
  have hB0 := hB.mv X0.warmed.alike hh0
  have c1 : Steps p.tables e below (s₁.setTop (entryFrame m #[.ref a, .ref b] 3)) (s₁.setTop (mkF m 0 #[.val (.ref a), .val (.ref b), .unset] [])) := entry rfl
  have c2 : Steps p.tables e below (s₁.setTop (entryFrame m #[.ref a, .ref b] 3)) (s₁.setTop (mkF m 4 #[.val (.ref a), .val (.ref b), .unset] [.int (Int32.ofNat B.slots.size), .int (Int32.ofNat A.slots.size)])) := c1.trans (by
    refine XS.aloadN X0.here hexec rfl (hb hbytes d0) rfl rfl ?_
    refine X0.alen hexec hA0 rfl rfl (hb hbytes d1) ?_
    refine XS.aloadN X0.here hexec rfl (hb hbytes d2) rfl rfl ?_
    refine X0.alen hexec hB0 rfl rfl (hb hbytes d3) ?_
    exact Steps.refl _)
  by_cases hs : A.slots.size = B.slots.size
  · have c3 : Steps p.tables e below (s₁.setTop (entryFrame m #[.ref a, .ref b] 3)) (s₁.setTop (mkF m 9 #[.val (.ref a), .val (.ref b), .val (.int 0)] [])) := c2.trans (by
      refine XS.icmpNo X0.here hexec rfl (hb hbytes d4) rfl (ii_ne_f (by rw [hs])) ?_
      refine iconstV X0.here hexec rfl 0 (hb hbytes d7) (by decide) ?_
      refine XS.istoreN X0.here hexec rfl (hb hbytes d8) rfl rfl ?_
      exact Steps.refl _)
    have loop : ∀ (r i : Nat), i + r = A.slots.size → (∀ j, j < i → yv A j = yv B j) → Steps p.tables e below (s₁.setTop (entryFrame m #[.ref a, .ref b] 3)) (s₁.setTop (mkF m 9 #[.val (.ref a), .val (.ref b), .val (.int (Int32.ofNat i))] [])) → ∃ (pc : Nat) (Ls : Array Slot) (v : Int32), (pc = 25 ∨ pc = 33) ∧ ((v = 1 ∧ EqC A B) ∨ (v = 0 ∧ ¬ EqC A B)) ∧ Steps p.tables e below (s₁.setTop (entryFrame m #[.ref a, .ref b] 3)) (s₁.setTop (mkF m pc Ls [.int v])) := by
      intro r
      induction r with
      | zero =>
        intro i hi he cl
        exact ⟨33, _, 1, Or.inr rfl, Or.inl ⟨rfl, hs, fun j hj => he j (by omega)⟩, cl.trans (by
          refine XS.iloadN X0.here hexec rfl (hb hbytes d9) rfl ?_
          refine XS.aloadN X0.here hexec rfl (hb hbytes d10) rfl rfl ?_
          refine X0.alen hexec hA0 rfl rfl (hb hbytes d11) ?_
          refine XS.icmpYes X0.here hexec rfl (pc0 := 12) rfl (hb hbytes d12) rfl (ii_ge_t (nlt32 (by omega) (by omega))) (by decide) rfl ?_
          refine iconstV X0.here hexec rfl 1 (hb hbytes d32) (by decide) ?_
          exact Steps.refl _)⟩
      | succ r ih =>
        intro i hi he cl
        have c4 : Steps p.tables e below (s₁.setTop (entryFrame m #[.ref a, .ref b] 3)) (s₁.setTop (mkF m 21 #[.val (.ref a), .val (.ref b), .val (.int (Int32.ofNat i))] [.int (yv B i), .int (yv A i)])) := cl.trans (by
          refine XS.iloadN X0.here hexec rfl (hb hbytes d9) rfl ?_
          refine XS.aloadN X0.here hexec rfl (hb hbytes d10) rfl rfl ?_
          refine X0.alen hexec hA0 rfl rfl (hb hbytes d11) ?_
          refine XS.icmpNo X0.here hexec rfl (hb hbytes d12) rfl (ii_ge_f (lt32 (by omega) (by omega))) ?_
          refine XS.aloadN X0.here hexec rfl (hb hbytes d15) rfl rfl ?_
          refine XS.iloadN X0.here hexec rfl (hb hbytes d16) rfl ?_
          refine X0.aget hexec hA0 rfl (yv_get hA tA (i := i) (by omega)) rfl rfl (hb hbytes d17) ?_
          refine XS.aloadN X0.here hexec rfl (hb hbytes d18) rfl rfl ?_
          refine XS.iloadN X0.here hexec rfl (hb hbytes d19) rfl ?_
          refine X0.aget hexec hB0 rfl (yv_get hB tB (i := i) (by omega)) rfl rfl (hb hbytes d20) ?_
          exact Steps.refl _)
        by_cases hv : yv A i = yv B i
        · have c5 : Steps p.tables e below (s₁.setTop (entryFrame m #[.ref a, .ref b] 3)) (s₁.setTop (mkF m 9 #[.val (.ref a), .val (.ref b), .val (.int (Int32.ofNat i + 1))] [])) := c4.trans (by
            refine XS.icmpYes X0.here hexec rfl (pc0 := 21) rfl (hb hbytes d21) rfl (ii_eq_t hv) (by decide) rfl ?_
            refine iincV X0.here hexec rfl 1 (hb hbytes d26) (by decide) rfl rfl ?_
            refine XS.goto X0.here hexec rfl (pc0 := 29) rfl (hb hbytes d29) (by decide) rfl ?_
            exact Steps.refl _)
          rw [succ32] at c5
          exact ih (i + 1) (by omega) (fun j hj => by
            by_cases e : j = i
            · rw [e]; exact hv
            · exact he j (by omega)) c5
        · exact ⟨25, _, 0, Or.inl rfl, Or.inr ⟨rfl, fun q => hv (q.2 i (by omega))⟩, c4.trans (by
            refine XS.icmpNo X0.here hexec rfl (hb hbytes d21) rfl (ii_eq_f hv) ?_
            refine iconstV X0.here hexec rfl 0 (hb hbytes d24) (by decide) ?_
            exact Steps.refl _)⟩
    obtain ⟨pc, Ls, v, hpc, hv, cz⟩ := loop A.slots.size 0 (by omega) (fun j hj => absurd hj (Nat.not_lt_zero j)) c3
    have nv : narrow .boolean (.int v) = .int v := by rcases hv with ⟨rfl, -⟩ | ⟨rfl, -⟩ <;> rfl
    rcases hpc with rfl | rfl
    · exact ⟨s₁, some (.int v), _, _, _, X0, rfl, rfl, rfl, (fun h => by cases h), ⟨v, rfl, hh0, hv⟩, fun fs hl => cz.trans (X0.ireturnOut hexec hret nv (Or.inr (Or.inl rfl)) (hb hbytes d25) hl)⟩
    · exact ⟨s₁, some (.int v), _, _, _, X0, rfl, rfl, rfl, (fun h => by cases h), ⟨v, rfl, hh0, hv⟩, fun fs hl => cz.trans (X0.ireturnOut hexec hret nv (Or.inr (Or.inl rfl)) (hb hbytes d33) hl)⟩
  · have c3 : Steps p.tables e below (s₁.setTop (entryFrame m #[.ref a, .ref b] 3)) (s₁.setTop (mkF m 35 #[.val (.ref a), .val (.ref b), .unset] [.int 0])) := c2.trans (by
      refine XS.icmpYes X0.here hexec rfl (pc0 := 4) rfl (hb hbytes d4) rfl (ii_ne_t (ne32 a31 b31 hs)) (by decide) rfl ?_
      refine iconstV X0.here hexec rfl 0 (hb hbytes d34) (by decide) ?_
      exact Steps.refl _)
    exact ⟨s₁, some (.int 0), _, _, _, X0, rfl, rfl, rfl, (fun h => by cases h), ⟨0, rfl, hh0, Or.inr ⟨rfl, fun q => hs q.1⟩⟩, fun fs hl => c3.trans (X0.ireturnOut hexec hret rfl (Or.inr (Or.inl rfl)) (hb hbytes d35) hl)⟩
end LEq
theorem Cod.ty {cd : Int32} {n : Nat} {f : Nat → Int32} {V : Cell} (h : Cod cd n f V) : Typed .byte V := fun i v hv => by
  have hi : i < V.slots.size := (Array.getElem?_eq_some_iff.mp hv).1
  rcases h with ⟨-, k1, k2⟩ | ⟨-, k1, k2, -⟩
  · rw [(k2 i (by omega)).1] at hv; cases hv; exact fits_lo8 _
  · rcases Nat.mod_two_eq_zero_or_one i with e | e
    · obtain ⟨j, rfl⟩ : ∃ j, i = 2 * j := ⟨i / 2, by omega⟩
      rw [(k2 j (by omega)).1] at hv; cases hv; exact fits_lo8 _
    · obtain ⟨j, rfl⟩ : ∃ j, i = 2 * j + 1 := ⟨i / 2, by omega⟩
      rw [(k2 j (by omega)).2] at hv; cases hv; exact fits_lo8 _
/-- the same text -/
def SameT (n : Nat) (f : Nat → Int32) (k : Nat) (g : Nat → Int32) : Prop := n = k ∧ ∀ j, j < n → f j = g j
theorem lo8_inj {x y : Int32} (h0 : ¬ x < 0) (h1 : ¬ 255 < x) (k0 : ¬ y < 0) (k1 : ¬ 255 < y) (h : lo8 x = lo8 y) : x = y := by
  rw [← lo8_mask h0 h1, ← lo8_mask k0 k1, h]
/-- arrays coded by one coder are equal just where the texts are -/
theorem Cod.eqv {cd : Int32} {n k : Nat} {f g : Nat → Int32} {V V' : Cell} (h : Cod cd n f V) (h' : Cod cd k g V') (hf : ∀ j, j < n → ¬ f j < 0 ∧ ¬ 65535 < f j) (hg : ∀ j, j < k → ¬ g j < 0 ∧ ¬ 65535 < g j) : EqC V V' ↔ SameT n f k g := by
  have yvv : ∀ {W : Cell} {i : Nat} {x : Int32}, W.slots[i]? = some (.int x) → yv W i = x := fun q => by unfold yv; rw [q]
  rcases h with ⟨rfl, k1, k2⟩ | ⟨rfl, k1, k2, -⟩
  · rcases h' with ⟨-, m1, m2⟩ | ⟨e, -⟩
    · constructor
      · rintro ⟨e1, e2⟩
        refine ⟨by omega, fun j hj => ?_⟩
        have q := e2 j (by omega)
        rw [yvv (k2 j hj).1, yvv (m2 j (by omega)).1] at q
        exact lo8_inj (hf j hj).1 (k2 j hj).2 (hg j (by omega)).1 (m2 j (by omega)).2 q
      · rintro ⟨rfl, e2⟩
        refine ⟨by omega, fun j hj => ?_⟩
        rw [yvv (k2 j (by omega)).1, yvv (m2 j (by omega)).1, e2 j (by omega)]
    · exact absurd e (by decide)
  · rcases h' with ⟨e, -⟩ | ⟨-, m1, m2, -⟩
    · exact absurd e (by decide)
    · constructor
      · rintro ⟨e1, e2⟩
        refine ⟨by omega, fun j hj => ?_⟩
        have q1 := e2 (2 * j) (by omega)
        have q2 := e2 (2 * j + 1) (by omega)
        rw [yvv (k2 j hj).1, yvv (m2 j (by omega)).1] at q1
        rw [yvv (k2 j hj).2, yvv (m2 j (by omega)).2] at q2
        rw [← pair_says (hf j hj).1 (hf j hj).2, ← pair_says (hg j (by omega)).1 (hg j (by omega)).2, q1, q2]
      · rintro ⟨rfl, e2⟩
        refine ⟨by omega, fun i hi => ?_⟩
        rcases Nat.mod_two_eq_zero_or_one i with e | e
        · obtain ⟨j, rfl⟩ : ∃ j, i = 2 * j := ⟨i / 2, by omega⟩
          rw [yvv (k2 j (by omega)).1, yvv (m2 j (by omega)).1, e2 j (by omega)]
        · obtain ⟨j, rfl⟩ : ∃ j, i = 2 * j + 1 := ⟨i / 2, by omega⟩
          rw [yvv (k2 j (by omega)).2, yvv (m2 j (by omega)).2, e2 j (by omega)]
/-- two codings differ: so do the texts -/
theorem Cod.dif {cd cd' : Int32} {n k : Nat} {f g : Nat → Int32} {V V' : Cell} (h : Cod cd n f V) (h' : Cod cd' k g V') (hne : ¬ cd = cd') : ¬ SameT n f k g := by
  rintro ⟨rfl, e⟩
  rcases h with ⟨rfl, -, k2⟩ | ⟨rfl, -, -, j, hj, hw⟩
  · rcases h' with ⟨rfl, -⟩ | ⟨-, -, -, j, hj, hw⟩
    · exact hne rfl
    · exact (k2 j hj).2 (by rw [e j hj]; exact hw)
  · rcases h' with ⟨-, -, m2⟩ | ⟨rfl, -⟩
    · exact (m2 j hj).2 (by rw [← e j hj]; exact hw)
    · exact hne rfl
/-- an object of exactly C is an instance of C -/
theorem cinst {p : Program} {l : Launch} {e : Env} {R : Room} {s : State} {m : MethodId} {args : Array Value} {below : List Frame} {meth : Method} {c : Code} {T : State} {locs : List Loc} {cells slots : Nat} (X : Stand p l e R s m args below meth c T locs cells slots) (hexec : p.tables.exec = Jvm.exec) {own C : String} {index : Nat} (hown : s.vm.findClass own = some m.cls) (hlink : (Cond.classLink own index C).before args s = true) {a : Addr} (hE : Exact C a T)
    {g : JFrame} (hg : g.method = m) {rest : List Value} (hstack : g.stack = .ref a :: rest) (hdg : decode c.code g.pc = .ok (.instanceof index, 3)) :
    ∃ T', Stand p l e R s m args below meth c T' locs cells slots ∧ T'.heap = T.heap ∧ ∀ target, Steps p.tables e below (T'.setTop { g with pc := g.pc + 3, stack := .int 1 :: rest }) target → Steps p.tables e below (T.setTop g) target := by
  obtain ⟨cB, h1, D, h2, h3, h4⟩ := hE
  have h1' : s.vm.findClass C = some cB := by rw [← X.warmed.alike.findClass]; exact h1
  obtain ⟨vm', X', st⟩ := X.instanceofYes hexec hown hlink h2 h4 h1' (by rw [h3]; exact Jvm.Free.SB.assignable_self _ _) hg hstack hdg
  exact ⟨_, X', rfl, st⟩
theorem cself {p : Program} {l : Launch} {e : Env} {R : Room} {s : State} {m : MethodId} {args : Array Value} {below : List Frame} {meth : Method} {c : Code} {T : State} {locs : List Loc} {cells slots : Nat} (X : Stand p l e R s m args below meth c T locs cells slots) (hexec : p.tables.exec = Jvm.exec) {own C : String} {index : Nat} (hown : s.vm.findClass own = some m.cls) (hlink : (Cond.classLink own index C).before args s = true) {a : Addr} (hE : Exact C a T)
    {g : JFrame} (hg : g.method = m) {rest : List Value} (hstack : g.stack = .ref a :: rest) (hdg : decode c.code g.pc = .ok (.checkcast index, 3)) :
    ∃ T', Stand p l e R s m args below meth c T' locs cells slots ∧ T'.heap = T.heap ∧ ∀ target, Steps p.tables e below (T'.setTop { g with pc := g.pc + 3, stack := .ref a :: rest }) target → Steps p.tables e below (T.setTop g) target := by
  obtain ⟨cB, h1, D, h2, h3, h4⟩ := hE
  have h1' : s.vm.findClass C = some cB := by rw [← X.warmed.alike.findClass]; exact h1
  obtain ⟨vm', X', st⟩ := X.checkcastYes hexec hown hlink h2 h4 h1' (by rw [h3]; exact Jvm.Free.SB.assignable_self _ _) hg hstack hdg
  exact ⟨_, X', rfl, fun t h => st t (by rw [← hstack] at h; exact h)⟩
namespace SEq
def yN : MethodName := ⟨"java/lang/String", "equals", "(Ljava/lang/Object;)Z"⟩
abbrev yB : ByteArray := jdk_42_method_66_code
theorem d0 : decode yB 0 = .ok (.aload_n 0, 1) := by decide +kernel
theorem d1 : decode yB 1 = .ok (.aload_n 1, 1) := by decide +kernel
theorem d2 : decode yB 2 = .ok (.if_acmp (.ne) 5, 3) := by decide +kernel
theorem d5 : decode yB 5 = .ok (.iconst 1, 1) := by decide +kernel
theorem d6 : decode yB 6 = .ok (.ireturn, 1) := by decide +kernel
theorem d7 : decode yB 7 = .ok (.aload_n 1, 1) := by decide +kernel
theorem d8 : decode yB 8 = .ok (.instanceof 10, 3) := by decide +kernel
theorem d11 : decode yB 11 = .ok (.ifCond (.eq) 43, 3) := by decide +kernel
theorem d14 : decode yB 14 = .ok (.aload_n 1, 1) := by decide +kernel
theorem d15 : decode yB 15 = .ok (.checkcast 10, 3) := by decide +kernel
theorem d18 : decode yB 18 = .ok (.astore_n 2, 1) := by decide +kernel
theorem d19 : decode yB 19 = .ok (.getstatic 38, 3) := by decide +kernel
theorem d22 : decode yB 22 = .ok (.ifCond (.eq) 14, 3) := by decide +kernel
theorem d25 : decode yB 25 = .ok (.aload_n 0, 1) := by decide +kernel
theorem d26 : decode yB 26 = .ok (.getfield 15, 3) := by decide +kernel
theorem d29 : decode yB 29 = .ok (.aload_n 2, 1) := by decide +kernel
theorem d30 : decode yB 30 = .ok (.getfield 15, 3) := by decide +kernel
theorem d33 : decode yB 33 = .ok (.if_icmp (.ne) 21, 3) := by decide +kernel
theorem d36 : decode yB 36 = .ok (.aload_n 0, 1) := by decide +kernel
theorem d37 : decode yB 37 = .ok (.getfield 9, 3) := by decide +kernel
theorem d40 : decode yB 40 = .ok (.aload_n 2, 1) := by decide +kernel
theorem d41 : decode yB 41 = .ok (.getfield 9, 3) := by decide +kernel
theorem d44 : decode yB 44 = .ok (.invokestatic 541, 3) := by decide +kernel
theorem d47 : decode yB 47 = .ok (.ifCond (.eq) 7, 3) := by decide +kernel
theorem d50 : decode yB 50 = .ok (.iconst 1, 1) := by decide +kernel
theorem d51 : decode yB 51 = .ok (.goto 4, 3) := by decide +kernel
theorem d54 : decode yB 54 = .ok (.iconst 0, 1) := by decide +kernel
theorem d55 : decode yB 55 = .ok (.ireturn, 1) := by decide +kernel
def site : List Cond := [.classLink "java/lang/String" 10 "java/lang/String", .fieldLink "java/lang/String" 38 "java/lang/String" "COMPACT_STRINGS" "Z", .fieldLink "java/lang/String" 15 "java/lang/String" "coder" "B", .fieldLink "java/lang/String" 9 "java/lang/String" "value" "[B", LEq.tab] ++ staticW "java/lang/String" 541 LEq.yN
def tab : Cond := tabOf yN yB 3 (some .boolean) site
def P (x t : Addr) (V : Cell) (cd : Int32) (n : Nat) (f : Nat → Int32) (y t' : Addr) (V' : Cell) (cd' : Int32) (k : Nat) (g : Nat → Int32) (z : Int32) (args : Array Value) (s : State) : Prop := args = #[.ref x, .ref y] ∧ Txt x t V cd n f s ∧ Txt y t' V' cd' k g s ∧ StaticIs s "java/lang/String" "COMPACT_STRINGS" "Z" (.int z) ∧ ¬ z = 0
/-- equals(Object) of two Strings: whether the texts are the same -/
theorem law (l : Launch) (x t : Addr) (V : Cell) (cd : Int32) (n : Nat) (f : Nat → Int32) (y t' : Addr) (V' : Cell) (cd' : Int32) (k : Nat) (g : Nat → Int32) (z : Int32) : Law l yN 2 1 1 14 yB 3 (some .boolean) site (P x t V cd n f y t' V' cd' k g z) (Says01 (SameT n f k g)) [] 0 0 := by
  refine Law.of_walk (plainFor_of_name (by decide +kernel)) (by decide +kernel) (by decide +kernel) (by decide) (fun _ _ h => by rw [h.1]; rfl) (fun _ U U' hal hh h => ⟨h.1, h.2.1.mv hal hh, h.2.2.1.mv hal hh, h.2.2.2.1.there hal hh, h.2.2.2.2⟩) (fun r U U' V V' h1 hal h2 h => Says01.mv r U U' V V' h1 hal h2 h) ?_
  intro p e s m args below meth c s₁ X0 hexec hbytes hml hret hlk hnm hown hh0 W hP
  obtain ⟨rfl, hx, hy, s1, hz⟩ := hP
  have c1 : Steps p.tables e below (s₁.setTop (entryFrame m #[.ref x, .ref y] 3)) (s₁.setTop (mkF m 2 #[.val (.ref x), .val (.ref y), .unset] [.ref y, .ref x])) := Steps.trans (entry rfl) (by
    show Steps p.tables e below (s₁.setTop (mkF m 0 #[.val (.ref x), .val (.ref y), .unset] [])) _
    refine XS.aloadN X0.here hexec rfl (hb hbytes d0) rfl rfl ?_
    refine XS.aloadN X0.here hexec rfl (hb hbytes d1) rfl rfl ?_
    exact Steps.refl _)
  by_cases hxy : x = y
  · have c2 : Steps p.tables e below (s₁.setTop (entryFrame m #[.ref x, .ref y] 3)) (s₁.setTop (mkF m 6 #[.val (.ref x), .val (.ref y), .unset] [.int 1])) := c1.trans (by
      refine acmpNo X0.here hexec rfl (hb hbytes d2) rfl rfl rfl (by simp [acmp, hxy]) ?_
      refine iconstV X0.here hexec rfl 1 (hb hbytes d5) (by decide) ?_
      exact Steps.refl _)
    subst hxy
    have ec : cd = cd' := by
      obtain ⟨D, fd, a1, a2, a3⟩ := hx.2.2.1
      obtain ⟨D', fd', b1, b2, b3⟩ := hy.2.2.1
      cases a1.symm.trans b1
      obtain ⟨q1, q2, q3, q4⟩ := a2.1
      obtain ⟨r1, r2, r3, r4⟩ := b2.1
      cases q4.symm.trans r4
      cases a3.symm.trans b3; rfl
    have et : t = t' := by
      obtain ⟨D, fd, a1, a2, a3⟩ := hx.2.1
      obtain ⟨D', fd', b1, b2, b3⟩ := hy.2.1
      cases a1.symm.trans b1
      obtain ⟨q1, q2, q3, q4⟩ := a2.1
      obtain ⟨r1, r2, r3, r4⟩ := b2.1
      cases q4.symm.trans r4
      cases a3.symm.trans b3; rfl
    subst ec et
    have ev : V = V' := by cases hx.2.2.2.1.1.symm.trans hy.2.2.2.1.1; rfl
    subst ev
    have hs : SameT n f k g := (Cod.eqv hx.2.2.2.2.1 hy.2.2.2.2.1 hx.2.2.2.2.2 hy.2.2.2.2.2).mp ⟨rfl, fun _ _ => rfl⟩
    exact ⟨s₁, some (.int 1), _, _, _, X0, rfl, rfl, rfl, (fun h => by cases h), ⟨1, rfl, hh0, Or.inl ⟨rfl, hs⟩⟩, fun fs hl => c2.trans (X0.ireturnOut hexec hret rfl (Or.inr (Or.inl rfl)) (hb hbytes d6) hl)⟩
  · have c2 : Steps p.tables e below (s₁.setTop (entryFrame m #[.ref x, .ref y] 3)) (s₁.setTop (mkF m 8 #[.val (.ref x), .val (.ref y), .unset] [.ref y])) := c1.trans (by
      refine acmpYes X0.here hexec rfl (pc0 := 2) rfl (hb hbytes d2) rfl rfl rfl (by simp [acmp, hxy]) (by decide) rfl ?_
      refine XS.aloadN X0.here hexec rfl (hb hbytes d7) rfl rfl ?_
      exact Steps.refl _)
    obtain ⟨T3, X3, q3, st3⟩ := cinst X0 hexec hown (wk W (.classLink "java/lang/String" 10 "java/lang/String")) (hy.mv X0.warmed.alike hh0).1 (g := (mkF m 8 #[.val (.ref x), .val (.ref y), .unset] [.ref y])) rfl (rest := []) rfl (hb hbytes d8)
    have hh3 := q3.trans hh0
    have c4 : Steps p.tables e below (s₁.setTop (entryFrame m #[.ref x, .ref y] 3)) (T3.setTop (mkF m 15 #[.val (.ref x), .val (.ref y), .unset] [.ref y])) := (c2.trans (st3 _ (Steps.refl _))).trans (by
      refine XS.ifNo X3.here hexec rfl (hb hbytes d11) rfl (i0_eq_f (by decide)) ?_
      refine XS.aloadN X3.here hexec rfl (hb hbytes d14) rfl rfl ?_
      exact Steps.refl _)
    obtain ⟨T5, X5, q5, st5⟩ := cself X3 hexec hown (wk W (.classLink "java/lang/String" 10 "java/lang/String")) (hy.mv X3.warmed.alike hh3).1 (g := (mkF m 15 #[.val (.ref x), .val (.ref y), .unset] [.ref y])) rfl (rest := []) rfl (hb hbytes d15)
    have hh5 := q5.trans hh3
    have c6 : Steps p.tables e below (s₁.setTop (entryFrame m #[.ref x, .ref y] 3)) (T5.setTop (mkF m 19 #[.val (.ref x), .val (.ref y), .val (.ref y)] [])) := (c4.trans (st5 _ (Steps.refl _))).trans (by
      refine XS.astoreN X5.here hexec rfl (hb hbytes d18) rfl rfl rfl ?_
      exact Steps.refl _)
    obtain ⟨T7, X7, q7, st7⟩ := X5.sget hexec hown (wk W (.fieldLink "java/lang/String" 38 "java/lang/String" "COMPACT_STRINGS" "Z")) s1 (fun _ _ h => by rw [hh5]; exact h) (g := (mkF m 19 #[.val (.ref x), .val (.ref y), .val (.ref y)] [])) rfl (hb hbytes d19)
    have hh7 := q7.trans hh5
    have c8 : Steps p.tables e below (s₁.setTop (entryFrame m #[.ref x, .ref y] 3)) (T7.setTop (mkF m 26 #[.val (.ref x), .val (.ref y), .val (.ref y)] [.ref x])) := (c6.trans (st7 _ (Steps.refl _))).trans (by
      refine XS.ifNo X7.here hexec rfl (hb hbytes d22) rfl (i0_eq_f hz) ?_
      refine XS.aloadN X7.here hexec rfl (hb hbytes d25) rfl rfl ?_
      exact Steps.refl _)
    obtain ⟨T9, X9, q9, st9⟩ := X7.hget hexec hown (wk W (.fieldLink "java/lang/String" 15 "java/lang/String" "coder" "B")) (hx.mv X7.warmed.alike hh7).2.2.1 (g := (mkF m 26 #[.val (.ref x), .val (.ref y), .val (.ref y)] [.ref x])) rfl (rest := []) rfl (hb hbytes d26)
    have hh9 := q9.trans hh7
    have c10 : Steps p.tables e below (s₁.setTop (entryFrame m #[.ref x, .ref y] 3)) (T9.setTop (mkF m 30 #[.val (.ref x), .val (.ref y), .val (.ref y)] [.ref y, .int cd])) := (c8.trans (st9 _ (Steps.refl _))).trans (by
      refine XS.aloadN X9.here hexec rfl (hb hbytes d29) rfl rfl ?_
      exact Steps.refl _)
    obtain ⟨T11, X11, q11, st11⟩ := X9.hget hexec hown (wk W (.fieldLink "java/lang/String" 15 "java/lang/String" "coder" "B")) (hy.mv X9.warmed.alike hh9).2.2.1 (g := (mkF m 30 #[.val (.ref x), .val (.ref y), .val (.ref y)] [.ref y, .int cd])) rfl (rest := [.int cd]) rfl (hb hbytes d30)
    have hh11 := q11.trans hh9
    have c12 : Steps p.tables e below (s₁.setTop (entryFrame m #[.ref x, .ref y] 3)) (T11.setTop (mkF m 33 #[.val (.ref x), .val (.ref y), .val (.ref y)] [.int cd', .int cd])) := c10.trans (st11 _ (Steps.refl _))
    by_cases hcd : cd = cd'
    · subst hcd
      have c13 : Steps p.tables e below (s₁.setTop (entryFrame m #[.ref x, .ref y] 3)) (T11.setTop (mkF m 37 #[.val (.ref x), .val (.ref y), .val (.ref y)] [.ref x])) := c12.trans (by
        refine XS.icmpNo X11.here hexec rfl (hb hbytes d33) rfl (ii_ne_f rfl) ?_
        refine XS.aloadN X11.here hexec rfl (hb hbytes d36) rfl rfl ?_
        exact Steps.refl _)
      obtain ⟨T14, X14, q14, st14⟩ := X11.hget hexec hown (wk W (.fieldLink "java/lang/String" 9 "java/lang/String" "value" "[B")) (hx.mv X11.warmed.alike hh11).2.1 (g := (mkF m 37 #[.val (.ref x), .val (.ref y), .val (.ref y)] [.ref x])) rfl (rest := []) rfl (hb hbytes d37)
      have hh14 := q14.trans hh11
      have c15 : Steps p.tables e below (s₁.setTop (entryFrame m #[.ref x, .ref y] 3)) (T14.setTop (mkF m 41 #[.val (.ref x), .val (.ref y), .val (.ref y)] [.ref y, .ref t])) := (c13.trans (st14 _ (Steps.refl _))).trans (by
        refine XS.aloadN X14.here hexec rfl (hb hbytes d40) rfl rfl ?_
        exact Steps.refl _)
      obtain ⟨T16, X16, q16, st16⟩ := X14.hget hexec hown (wk W (.fieldLink "java/lang/String" 9 "java/lang/String" "value" "[B")) (hy.mv X14.warmed.alike hh14).2.1 (g := (mkF m 41 #[.val (.ref x), .val (.ref y), .val (.ref y)] [.ref y, .ref t])) rfl (rest := [.ref t]) rfl (hb hbytes d41)
      have hh16 := q16.trans hh14
      have c17 : Steps p.tables e below (s₁.setTop (entryFrame m #[.ref x, .ref y] 3)) (T16.setTop (mkF m 44 #[.val (.ref x), .val (.ref y), .val (.ref y)] [.ref t', .ref t])) := c15.trans (st16 _ (Steps.refl _))
      obtain ⟨v18, T18, X18, E18, g18⟩ := X16.callS hexec (LEq.law l t V t' V') hown (wks W (staticW "java/lang/String" 541 LEq.yN)) (wk W LEq.tab) (W := 0) (Nat.le_of_ble_eq_true rfl) (Nat.le_of_ble_eq_true rfl) (Nat.le_refl _) (Nat.le_refl _) (g := (mkF m 44 #[.val (.ref x), .val (.ref y), .val (.ref y)] [.ref t', .ref t])) rfl (by rw [hml]; rfl) c17 (argsL := [.ref t, .ref t']) (rest := []) rfl rfl (by show 2 * 0 + 0 ≤ _; decide) (hb hbytes d44) (⟨rfl, hx.2.2.2.1.mv X16.warmed.alike hh16, hx.2.2.2.2.1.ty, hy.2.2.2.1.mv X16.warmed.alike hh16, hy.2.2.2.2.1.ty⟩)
      obtain ⟨v, rfl, q18, hv⟩ := E18
      have iff := Cod.eqv hx.2.2.2.2.1 hy.2.2.2.2.1 hx.2.2.2.2.2 hy.2.2.2.2.2
      rcases hv with ⟨rfl, he⟩ | ⟨rfl, he⟩
      · have c19 : Steps p.tables e below (s₁.setTop (entryFrame m #[.ref x, .ref y] 3)) (T18.setTop (mkF m 55 #[.val (.ref x), .val (.ref y), .val (.ref y)] [.int 1])) := Steps.trans g18 (by
          refine XS.ifNo X18.here hexec rfl (hb hbytes d47) rfl (i0_eq_f (by decide)) ?_
          refine iconstV X18.here hexec rfl 1 (hb hbytes d50) (by decide) ?_
          refine XS.goto X18.here hexec rfl (pc0 := 51) rfl (hb hbytes d51) (by decide) rfl ?_
          exact Steps.refl _)
        exact ⟨T18, some (.int 1), _, _, _, X18, rfl, rfl, rfl, (fun h => by cases h), ⟨1, rfl, q18.trans hh16, Or.inl ⟨rfl, iff.mp he⟩⟩, fun fs hl => c19.trans (X18.ireturnOut hexec hret rfl (Or.inr (Or.inl rfl)) (hb hbytes d55) hl)⟩
      · have c19 : Steps p.tables e below (s₁.setTop (entryFrame m #[.ref x, .ref y] 3)) (T18.setTop (mkF m 55 #[.val (.ref x), .val (.ref y), .val (.ref y)] [.int 0])) := Steps.trans g18 (by
          refine XS.ifYes X18.here hexec rfl (pc0 := 47) rfl (hb hbytes d47) rfl (i0_eq_t rfl) (by decide) rfl ?_
          refine iconstV X18.here hexec rfl 0 (hb hbytes d54) (by decide) ?_
          exact Steps.refl _)
        exact ⟨T18, some (.int 0), _, _, _, X18, rfl, rfl, rfl, (fun h => by cases h), ⟨0, rfl, q18.trans hh16, Or.inr ⟨rfl, fun q => he (iff.mpr q)⟩⟩, fun fs hl => c19.trans (X18.ireturnOut hexec hret rfl (Or.inr (Or.inl rfl)) (hb hbytes d55) hl)⟩
    · have c13 : Steps p.tables e below (s₁.setTop (entryFrame m #[.ref x, .ref y] 3)) (T11.setTop (mkF m 55 #[.val (.ref x), .val (.ref y), .val (.ref y)] [.int 0])) := c12.trans (by
        refine XS.icmpYes X11.here hexec rfl (pc0 := 33) rfl (hb hbytes d33) rfl (ii_ne_t hcd) (by decide) rfl ?_
        refine iconstV X11.here hexec rfl 0 (hb hbytes d54) (by decide) ?_
        exact Steps.refl _)
      exact ⟨T11, some (.int 0), _, _, _, X11, rfl, rfl, rfl, (fun h => by cases h), ⟨0, rfl, hh11, Or.inr ⟨rfl, Cod.dif hx.2.2.2.2.1 hy.2.2.2.2.1 hcd⟩⟩, fun fs hl => c13.trans (X11.ireturnOut hexec hret rfl (Or.inr (Or.inl rfl)) (hb hbytes d55) hl)⟩
theorem pays {l : Launch} {R : Room} {p : Program} {e : Env} {below : List Frame} {s : State} {sargs : Array Value} {len W : Nat} (x t : Addr) (V : Cell) (cd : Int32) (n : Nat) (f : Nat → Int32) (y t' : Addr) (V' : Cell) (cd' : Int32) (k : Nat) (g : Nat → Int32) (z : Int32) (htab : tab.before sargs s = true) (hfr : 2 ≤ R.frames) (hlo : W + 28 ≤ R.locals) :
    Back l R p e below s sargs yN len W (fun A₁ a₁ => A₁.cells + 0 ≤ R.cells ∧ A₁.slots + 0 ≤ R.slots ∧ P x t V cd n f y t' V' cd' k g z a₁ A₁.U) (fun A₁ _ v₁ B₁ => Says01 (SameT n f k g) v₁ A₁.U B₁.U ∧ B₁.locs = A₁.locs ++ [] ∧ B₁.cells = A₁.cells + 0 ∧ B₁.slots = A₁.slots + 0) :=
  (law l x t V cd n f y t' V' cd' k g z).pays htab hfr (by omega)
end SEq
end StrChars
namespace StrChars.Road
open Jvm Sem ClassFile Op Lib Jvm.Stand Jvm.Free Jvm.Free.XT
open Jvm.Lib.Cold (StaticIs)
/-- the words of String.equals(Object) -/
abbrev wordsEq : List Jvm.Cond := [.code SEq.yN SEq.yB 3 (some .boolean), .initialized ST, .classLink ST 10 ST, .fieldLink ST 38 ST "COMPACT_STRINGS" "Z", .fieldLink ST 15 ST "coder" "B", .fieldLink ST 9 ST "value" "[B", .methodLink ST 541 LEq.yN, .static LEq.yN, .code LEq.yN LEq.yB 3 (some .boolean), .initialized "java/lang/StringLatin1"]
theorem tabEq_of {a : Array Value} {s : State} (h : ∀ w ∈ wordsEq, w.before a s = true) : SEq.tab.before a s = true := by
  have hl : LEq.tab.before a s = true := unparts (wk h (.code LEq.yN LEq.yB 3 (some .boolean))) (wks h (.initialized LEq.yN.cls :: LEq.site))
  have q := consq hl h
  exact unparts (wk q (.code SEq.yN SEq.yB 3 (some .boolean))) (wks q (.initialized SEq.yN.cls :: SEq.site))
theorem movedEq {Z s : State} {a0 args : Array Value} (hZ : Z.Warmed39 s.vm) (hw : ∀ d ∈ wordsEq, d.before a0 Z = true) : ∀ d ∈ wordsEq, d.before args s = true := fun d hd => by
  have t : ∀ d ∈ wordsEq, (d.onTables && d.keepsFace) = true := by decide +kernel
  exact RoadKit.mv hZ (hw d hd) (t d hd)
/-- the road's facts of a String, as the laws ask it -/
theorem txt_of {Z U : State} {a0 : Array Value} {kI : Nat} (wi : (Jvm.Cond.instantiable ST kI).before a0 Z = true) (al : Z.vm.Alike U.vm) {x t : Addr} {kb : ClassId} {cs : List Int32} {cd N2 : Int32} {vs : List Value} (E : RoadKit.Exa Z U.heap x ST) (V : RoadKit.Fld Z U.heap x ST "value" "[B" (.ref t)) (C : RoadKit.Fld Z U.heap x ST "coder" "B" (.int cd)) (K : RoadKit.Arv Z U.heap t kb .byte N2 vs (.int 0)) (hc : CodA cs cd N2 vs) (hb : ∀ c ∈ cs, ¬ c < 0 ∧ ¬ (65535 : Int32) < c) (l2 : cs.length ≤ 4000) :
    ∃ A, Txt x t A cd cs.length (fun j => cs.getD j 0) U := by
  obtain ⟨A, K1, K2, K3, K4, K5, K6⟩ := K
  have hcod := hc.cod (by omega) K3 K5
  obtain ⟨D, fV, fC, hB, F1, F2, g1, g2, -, -⟩ := strObj wi al E V C
  exact ⟨A, ⟨_, hB.2.2.1, D, hB.1, rfl, by cases q : D.vm <;> first | rfl | exact absurd q (hB.2.1.2 _)⟩, Has.of hB F1 g1, Has.of hB F2 g2, ⟨K1.1, State.isArrayOf_alike al K1.2.1, K1.2.2, by rcases hcod with ⟨-, q, -⟩ | ⟨-, q, -⟩ <;> omega⟩, hcod, fun j hj => by
    have e : cs.getD j 0 = cs[j] := by simp [List.getD_eq_getElem?_getD, hj]
    show ¬ cs.getD j 0 < 0 ∧ ¬ 65535 < cs.getD j 0
    rw [e]; exact hb _ (List.getElem_mem _)⟩
theorem same_list (cs ds : List Int32) : SameT cs.length (fun j => cs.getD j 0) ds.length (fun j => ds.getD j 0) ↔ cs = ds := by
  constructor
  · rintro ⟨e, q⟩
    refine List.ext_getElem e fun j h1 h2 => ?_
    have := q j h1
    simpa [List.getD_eq_getElem?_getD, h1, h2] using this
  · rintro rfl
    exact ⟨rfl, fun _ _ => rfl⟩
/-- **equals(Object) OF TWO SUCH STRINGS**: 1 just where the chars are the same -/
theorem eqW {p : Program} {l : Launch} {e : Env} {R : Room} {s : State} {args : Array Value} {below : List Frame} {len W : Nat} {Z : State} {a0 : Array Value} {h : Heap} (hZ : Z.Warmed39 s.vm) (hw : ∀ d ∈ wordsEq, d.before a0 Z = true) {kI : Nat} (wi : (Jvm.Cond.instantiable ST kI).before a0 Z = true)
    {x t : Addr} {kb : ClassId} {cs : List Int32} {cd N2 : Int32} {vs : List Value} (E : RoadKit.Exa Z h x ST) (V : RoadKit.Fld Z h x ST "value" "[B" (.ref t)) (C : RoadKit.Fld Z h x ST "coder" "B" (.int cd)) (K : RoadKit.Arv Z h t kb .byte N2 vs (.int 0)) (hc : CodA cs cd N2 vs) (hb : ∀ c ∈ cs, ¬ c < 0 ∧ ¬ (65535 : Int32) < c) (l2 : cs.length ≤ 4000)
    {y t' : Addr} {kb' : ClassId} {ds : List Int32} {cd' N2' : Int32} {vs' : List Value} (E' : RoadKit.Exa Z h y ST) (V' : RoadKit.Fld Z h y ST "value" "[B" (.ref t')) (C' : RoadKit.Fld Z h y ST "coder" "B" (.int cd')) (K' : RoadKit.Arv Z h t' kb' .byte N2' vs' (.int 0)) (hc' : CodA ds cd' N2' vs') (hb' : ∀ c ∈ ds, ¬ c < 0 ∧ ¬ (65535 : Int32) < c) (l2' : ds.length ≤ 4000)
    {z : Int32} (S : RoadKit.Sta Z h ST "COMPACT_STRINGS" "Z" (.int z)) (hz : ¬ z = 0) (hfr : 2 ≤ R.frames) (hlo : W + 28 ≤ R.locals) :
    Back l R p e below s args (⟨"java/lang/String", "equals", "(Ljava/lang/Object;)Z"⟩ : MethodName) len W (fun P a => a = #[.ref x, .ref y] ∧ P.U.heap = h ∧ P.cells + 0 ≤ R.cells ∧ P.slots + 0 ≤ R.slots)
      (fun P _ v B => ∃ L, (((v = some (.int 1) ∧ cs = ds) ∨ (v = some (.int 0) ∧ ¬ cs = ds)) ∧ L = [] ∧ B.U.heap = h) ∧ B.locs = P.locs ++ L ∧ B.cells = P.cells + 0 ∧ B.slots = P.slots + 0) := by
  intro m meth c P g ig mk a X hg hsize hdg hW hn hp'
  obtain ⟨rfl, rfl, r1, r2⟩ := hp'
  have al : Z.vm.Alike P.U.vm := hZ.alike.trans X.warmed.alike
  obtain ⟨A, hx⟩ := txt_of wi al E V C K hc hb l2
  obtain ⟨A', hy⟩ := txt_of wi al E' V' C' K' hc' hb' l2'
  obtain ⟨v, B, X', ⟨⟨w, hv, hh, hq⟩, hl, hk, hs⟩, st⟩ := SEq.pays x t A cd cs.length (fun j => cs.getD j 0) y t' A' cd' ds.length (fun j => ds.getD j 0) z (tabEq_of (movedEq hZ hw)) hfr hlo m meth c P g ig mk _ X hg hsize hdg hW hn ⟨r1, r2, rfl, hx, hy, sta_is al S, hz⟩
  refine ⟨v, B, X', ⟨[], ⟨?_, rfl, hh⟩, hl, hk, hs⟩, st⟩
  rcases hq with ⟨rfl, q⟩ | ⟨rfl, q⟩
  · exact Or.inl ⟨hv, (same_list cs ds).mp q⟩
  · exact Or.inr ⟨hv, fun e => q ((same_list cs ds).mpr e)⟩
end StrChars.Road
namespace StrChars.Road
open Jvm Sem ClassFile Op Lib Jvm.Stand Jvm.Free Jvm.Free.XT
open Jvm.Lib.Cold (StaticIs)
/-- what backV says of its String, as the contracts of this text ask it: cs's low bytes, coder 0 -/
theorem codOf {cs : List Int32} {n : Nat} (hn : cs.length = n) (hb : ∀ c ∈ cs, ¬ 255 < c) : CodA cs 0 (Int32.ofNat n) ((cs.map lo8).map Value.int) := Or.inl ⟨rfl, by rw [hn], by simp [List.map_map, Function.comp_def], hb⟩
end StrChars.Road
end Jvm.Pilot.@@N@@

namespace Jvm.Pilot.@@N@@.Own
open Jvm Jvm.ClassFile Sem Op Lib Jvm.Free Jvm.Stand Jvm.LawKit Jvm.RoadKit
abbrev ST : String := "java/lang/String"
abbrev Nar (_s : State) (_vm : Vm) : Prop := True
/-- where a walk stands -/
def Sit (p : Program) (l : Launch) (e : Env) (R : Room) (s : State) (m : MethodId) (args : Array Value) (below : List Frame) (meth : Method) (c : Code) (Z : State) (EL : List (String × Nat)) (own : String) (vm : Vm) (T : State) (h : Heap) (k n : Nat) : Prop :=
  ∃ locs : List Loc, Stand p l e R (s.setVm vm) m args below meth c T locs k n ∧ T.heap = h ∧ Z.Warmed39 vm ∧ vm.findClass own = some m.cls ∧ (∃ j, s.Since vm j ∧ j ≤ h.size) ∧ CHr Z EL s.vm s.heap vm h ∧ Fr Z.heap.size locs ∧ Ext Z.heap s.heap ∧ Nar s vm
/-- one step of the heap and the tables: what was kept, what may be booked -/
def Stp (Z : State) (EL : List (String × Nat)) (vm : Vm) (h : Heap) (vm' : Vm) (h' : Heap) (ws : List Addr) : Prop := Keep h h' ws ∧ CHr Z EL vm h vm' h'
def Cl (p : Program) (e : Env) (below : List Frame) (G : State → JFrame → Prop) : Prop := ∀ (T T' : State) (g g' : JFrame), (∀ t, Steps p.tables e below (T'.setTop g') t → Steps p.tables e below (T.setTop g) t) → G T' g' → G T g
def Rt (p : Program) (l : Launch) (e : Env) (R : Room) (s : State) (m : MethodId) (args : Array Value) (below : List Frame) (meth : Method) (c : Code) (Z : State) (EL : List (String × Nat)) (own : String) (Q : Option Value → Heap → Prop) (G : State → JFrame → Prop) : Prop :=
  ∀ (vm : Vm) (T : State) (h : Heap) (k n : Nat) (v : Option Value) (g : JFrame), Sit p l e R s m args below meth c Z EL own vm T h k n → k ≤ R.cells → n ≤ R.slots → (meth.sig.returnType = none → v = none) → Q v h →
    (∀ fs, (∀ (f : JFrame) (acts : List Action), f.method = m → f.locked = none → f.entered = [] → (doReturn e (T.setTop f) acts v).1 = T.setFrames fs) → Steps p.tables e below (T.setTop g) (T.setFrames fs)) → G T g
def Con (l : Launch) (Z : State) (EL : List (String × Nat)) (y : MethodName) (bytes : ByteArray) (maxL : Nat) (ret : Option FieldType) (ws : List Jvm.Cond) (rm : Room) (as : Array Value) (h : Heap) (Q : Option Value → Heap → Prop) : Prop :=
  MetFree l y (head1 (Jvm.Cond.code y bytes maxL ret :: ws) rm) (fun a U => a = as ∧ Z.Warmed39 U.vm ∧ U.heap = h ∧ CHv Z EL U.vm h) (fun _ _ _ _ _ => True) (fun _ U o U' => ∃ v L, o = .returned v ∧ (Q v U'.heap ∧ Fr Z.heap.size L) ∧ CHr Z EL U.vm U.heap U'.vm U'.heap ∧ ReturnedEndW U o U' L rm.cells rm.slots)
section L
variable {p : Program} {l : Launch} {e : Env} {R : Room} {s : State} {m : MethodId} {args : Array Value} {below : List Frame} {meth : Method} {c : Code} {Z : State} {EL : List (String × Nat)} {own : String} {a0 : Array Value} {vm vm' vm'' : Vm} {T T' : State} {h h' h'' : Heap} {k n : Nat} {G : State → JFrame → Prop} {ws ws' us : List Addr} {x a b t : Addr}
theorem irem {tb : Tables} [Ours tb] {target : State} {g : JFrame} (h : At T m c below) (hx : tb.exec = Jvm.exec) (hg : g.method = m) {x y : Int32} {rest : List Value} (hd : decode c.code g.pc = .ok (.irem, 1)) (hs : g.stack = .int y :: .int x :: rest) (hy : y ≠ 0) (hr : Steps tb e below (T.setTop { g with pc := g.pc + 1, stack := .int (x % y) :: rest }) target) : Steps tb e below (T.setTop g) target := by
  have q : x - x / y * y = x % y := irem_eq_mod x y
  exact XS.irem h hx hg hd hs hy (by rw [q]; exact hr)
theorem hw0 {g : JFrame} {rest : List Value} {W : Nat} (h0 : g.monitorRoom = 0) (h : (rest.map fun v => v.category).sum = W) : 2 * g.monitorRoom + (rest.map fun v => v.category).sum ≤ W := by rw [h0, h]; omega
theorem Cl.st (hG : Cl p e below G) {T T' : State} {g g' : JFrame} (f : ∀ t, Steps p.tables e below (T'.setTop g') t → Steps p.tables e below (T.setTop g) t) (q : G T' g') : G T g := hG T T' g g' f q
theorem old_ext {locs : List Loc} (X : Stand p l e R (s.setVm vm) m args below meth c T locs k n) (N : Fr Z.heap.size locs) (O : Ext Z.heap s.heap) : Ext Z.heap T.heap := by
  have hs := X.same
  refine ⟨Nat.le_trans O.1 hs.2.1, fun b cl hcl => ?_⟩
  obtain ⟨c', h1, h2, -, h4⟩ := hs.2.2.2.2.2 b cl (O.2 b cl hcl)
  have hb := (Array.getElem?_eq_some_iff.mp hcl).1
  have hsl : c'.slots = cl.slots := Array.ext_getElem? fun i => h4 i fun hm => absurd (N _ hm) (Nat.not_le.mpr hb)
  have hcc : c' = cl := by rw [h2, hsl]
  rw [← hcc]; exact h1
theorem Sit.here (S : Sit p l e R s m args below meth c Z EL own vm T h k n) : At T m c below := by
  obtain ⟨_, X, -⟩ := S; exact X.here
theorem Sit.warm (S : Sit p l e R s m args below meth c Z EL own vm T h k n) : Z.Warmed39 vm := by
  obtain ⟨_, -, -, q, -⟩ := S; exact q
theorem Sit.ch (S : Sit p l e R s m args below meth c Z EL own vm T h k n) : CHv Z EL vm h := by
  obtain ⟨_, -, -, -, -, -, q, -⟩ := S; exact q.1
theorem Sit.old (S : Sit p l e R s m args below meth c Z EL own vm T h k n) : Ext Z.heap h := by
  obtain ⟨_, X, rfl, -, -, -, -, N, O, -⟩ := S; exact old_ext X N O
theorem Sit.le (S : Sit p l e R s m args below meth c Z EL own vm T h k n) : Z.heap.size ≤ h.size := S.old.1
theorem Sit.mono (S : Sit p l e R s m args below meth c Z EL own vm T h k n) {k' n' : Nat} (hk : k ≤ k') (hn : n ≤ n') : Sit p l e R s m args below meth c Z EL own vm T h k' n' := by
  obtain ⟨locs, X, r⟩ := S
  exact ⟨locs, { X with same := X.same.mono hk hn }, r⟩
theorem Stp.refl (H : CHv Z EL vm h) : Stp Z EL vm h vm h [] := ⟨Keep.refl _ _, CHr.refl H⟩
theorem Stp.trans (A : Stp Z EL vm h vm' h' ws) (B : Stp Z EL vm' h' vm'' h'' ws') (q : ∀ x ∈ ws, x ∈ us) (q' : ∀ x ∈ ws', x ∈ us ∨ h.size ≤ x) : Stp Z EL vm h vm'' h'' us :=
  ⟨Keep.trans ⟨A.1.1, fun x c r z => A.1.2.1 x c r fun y => z (q x y), A.1.2.2⟩ B.1 q', A.2.trans B.2⟩
theorem Stp.mono (A : Stp Z EL vm h vm' h' ws) (q : ∀ x ∈ ws, x ∈ us) : Stp Z EL vm h vm' h' us := ⟨⟨A.1.1, fun x c r z => A.1.2.1 x c r fun y => z (q x y), A.1.2.2⟩, A.2⟩
theorem Stp.of_ext (E : Ext h h') (H : CHv Z EL vm h) : Stp Z EL vm h vm h' [] := ⟨(Keep.refl _ _).ext E, CHr.ext E H⟩
theorem Stp.of_wr {sl : Nat} {v : Value} (W : Wr h h' a sl v) (S : Safe Z EL vm h a) (H : CHv Z EL vm h) : Stp Z EL vm h vm h' [a] := ⟨Keep.of_wr W, CHr.wr W S H⟩
theorem Stp.of_keep (K : Keep h h' ws) (S : ∀ x ∈ ws, Safe Z EL vm h x) (H : CHv Z EL vm h) : Stp Z EL vm h vm h' ws := ⟨K, CHr.keep K S H⟩
theorem Stp.safe (A : Stp Z EL vm h vm' h' ws) (hx : x < h.size) (S : Safe Z EL vm h x) : Safe Z EL vm' h' x := A.2.safe hx S
theorem Stp.fld (A : Stp Z EL vm h vm' h' ws) {C f d : String} {v : Value} (F : Fld Z h a C f d v) (q : a ∉ ws) : Fld Z h' a C f d v := F.keep A.1 q
theorem Stp.exa (A : Stp Z EL vm h vm' h' ws) {C : String} (F : Exa Z h a C) : Exa Z h' a C := F.keep A.1
theorem Stp.arv (A : Stp Z EL vm h vm' h' ws) {kc : ClassId} {ty : FieldType} {z : Int32} {vs : List Value} {d : Value} (F : Arv Z h a kc ty z vs d) (q : a ∉ ws) : Arv Z h' a kc ty z vs d := F.keep A.1 q
theorem keep_mono (K : Keep h h' ws) (q : ∀ x ∈ ws, x ∈ us) : Keep h h' us := ⟨K.1, fun x c r z => K.2.1 x c r fun y => z (q x y), K.2.2⟩
theorem and255 (x : Int32) : ¬ nar .char ((x &&& (255 : Int32)).toUInt32.toUInt16.toUInt32.toInt32) < 0 ∧ ¬ (255 : Int32) < nar .char ((x &&& (255 : Int32)).toUInt32.toUInt16.toUInt32.toInt32) := by
  have e : nar .char ((x &&& (255 : Int32)).toUInt32.toUInt16.toUInt32.toInt32) = x &&& 255 := by
    rw [i2c_mask]; exact i2c_mask x
  rw [e]
  have h := c_and x 255 (by decide)
  have e1 : (255 : Int32).toInt = 255 := rfl
  have e0 : (0 : Int32).toInt = 0 := rfl
  exact ⟨fun q => by rw [Int32.lt_iff_toInt_lt, e0] at q; omega, fun q => by rw [Int32.lt_iff_toInt_lt, e1] at q; omega⟩
/-- a String whose value is still null isn't booked -/
theorem Safe.blank {n : Nat} (hal : Z.vm.Alike vm) (E : Exa Z h x ST) (F : Fld Z h x ST "value" "[B" .null) (wi : (Jvm.Cond.instantiable ST n).before a0 Z = true) : Safe Z EL vm h x := fun B => by
  obtain ⟨p, hp, u, a, hb, q, hqa, hS, hy⟩ := B
  obtain ⟨cS, ⟨⟨s1, s2, s3, ⟨cv, kv, iv, s4, s4'⟩, ⟨cc, kc, ic, s5, s5'⟩, s6, s7, s8, s9, s10, s11, s12, s13, s14, s15, s16⟩, hfS, hcS⟩, ⟨kS, k1, k2, k3⟩, hB, hbyt⟩ := hS
  rcases hy with rfl | rfl
  · obtain ⟨cell, cf, kf, i, f, f1, f2, f3, f4, f5, f6, f7⟩ := F
    obtain ⟨kz, z4⟩ := ff_back (Z := Z) (U := Wst Z vm h) hal s4
    cases f1.symm.trans (show h[q.sa]? = some q.sC from s1)
    rw [show Z.fieldFound? ST "value" "[B" = _ from z4] at f2
    injection f2 with f2
    simp only [Prod.mk.injEq] at f2
    obtain ⟨-, -, -, rfl⟩ := f2
    rw [s8] at f7
    injection f7 with f7
    cases f7
  · obtain ⟨cell, kx, f1, f2, f3, f4, f5⟩ := E
    cases f1.symm.trans (show h[q.sd]? = some q.SA from s10)
    obtain ⟨cI, kI, g1, g2, g3, -⟩ := Cond.instantiable_spec wi
    cases f2.symm.trans g1
    cases f3.symm.trans g2
    obtain ⟨-, k9, hk9, comp, hkind9⟩ := s11
    obtain ⟨k', hk', ek'⟩ := hal.2.2 _ _ g2
    cases hk'.symm.trans (show vm.classes[q.SA.cls]? = some k9 from hk9)
    rw [ek'] at hkind9
    exact absurd (g3.symm.trans hkind9) (by simp)
def Str (Z : State) (h : Heap) (x t : Addr) (cs : List Int32) : Prop := ∃ kb : ClassId, Exa Z h x ST ∧ Fld Z h x ST "value" "[B" (.ref t) ∧ Fld Z h x ST "coder" "B" (.int 0) ∧ Arv Z h t kb .byte (Int32.ofNat cs.length) ((cs.map fun c => c.toInt8.toInt32).map Value.int) (.int 0) ∧ (∀ c ∈ cs, ¬ c < 0 ∧ ¬ (255 : Int32) < c) ∧ cs.length ≤ 4000
theorem Str.exa {cs : List Int32} (F : Str Z h x t cs) : Exa Z h x ST := by obtain ⟨_, q, -⟩ := F; exact q
theorem Str.lt {cs : List Int32} (F : Str Z h x t cs) : x < h.size := F.exa.lt
theorem Str.ltB {cs : List Int32} (F : Str Z h x t cs) : t < h.size := by obtain ⟨_, -, -, -, q, -⟩ := F; exact q.lt
theorem Str.ext {cs : List Int32} (F : Str Z h x t cs) (E : Ext h h') : Str Z h' x t cs := by
  obtain ⟨kb, q1, q2, q3, q4, q5⟩ := F; exact ⟨kb, q1.ext E, q2.ext E, q3.ext E, q4.ext E, q5⟩
theorem Stp.str (A : Stp Z EL vm h vm' h' ws) {cs : List Int32} (F : Str Z h x t cs) (q : x ∉ ws) (r : t ∉ ws) : Str Z h' x t cs := by
  obtain ⟨kb, q1, q2, q3, q4, q5⟩ := F; exact ⟨kb, A.exa q1, A.fld q2 q, A.fld q3 q, A.arv q4 r, q5⟩
theorem Str.neB {cs : List Int32} {C : String} {n : Nat} (F : Str Z h x t cs) (E : Exa Z h a C) (w : (Jvm.Cond.instantiable C n).before a0 Z = true) : t ≠ a := by
  obtain ⟨_, -, -, -, q, -⟩ := F; exact (E.neArv q w).symm
theorem Str.ne {cs : List Int32} {C : String} (F : Str Z h x t cs) (E : Exa Z h a C) (q : C ≠ ST) : x ≠ a := (E.ne F.exa q).symm
theorem arr_neK {k1 k2 : ClassId} {t1 t2 : FieldType} {z1 z2 : Int32} {v1 v2 : List Value} {d1 d2 : Value} (A : Arv Z h a k1 t1 z1 v1 d1) (B : Arv Z h b k2 t2 z2 v2 d2) (q : t1 ≠ t2) : a ≠ b := fun e => by
  subst e
  obtain ⟨c1, ⟨p1, ⟨-, kA, r1, m1, s1⟩, -⟩, -⟩ := A
  obtain ⟨c2, ⟨p2, ⟨-, kB, r2, m2, s2⟩, -⟩, -⟩ := B
  cases p1.symm.trans p2
  cases r1.symm.trans r2
  exact q (by have := s1.symm.trans s2; injection this)
theorem Str.neV {cs : List Int32} {kc : ClassId} {ty : FieldType} {z : Int32} {vs : List Value} {d : Value} (F : Str Z h x t cs) (A : Arv Z h a kc ty z vs d) (q : ty ≠ .byte) : t ≠ a := by
  obtain ⟨_, -, -, -, r, -⟩ := F; exact arr_neK r A (Ne.symm q)
theorem Str.neX {cs : List Int32} {n : Nat} {kc : ClassId} {ty : FieldType} {z : Int32} {vs : List Value} {d : Value} (F : Str Z h x t cs) (A : Arv Z h a kc ty z vs d) (w : (Jvm.Cond.instantiable ST n).before a0 Z = true) : x ≠ a := F.exa.neArv A w
/-- Stepping laws. -/
theorem Sit.getF (hG : Cl p e below G) (S : Sit p l e R s m args below meth c Z EL own vm T h k n) (hx : p.tables.exec = Jvm.exec) {R0 O nm d host : String} {index : Nat} (w : (Jvm.Cond.fieldLink own index R0 nm d).before a0 Z = true ∨ (Jvm.Cond.fieldLinkNest own index R0 nm d host).before a0 Z = true) (via : Via Z R0 O nm d) {v : Value} (F : Fld Z h a O nm d v)
    {g : JFrame} (hg : g.method = m) {rest : List Value} (hs : g.stack = .ref a :: rest) (hd : decode c.code g.pc = .ok (.getfield index, 3)) (K : ∀ T', Sit p l e R s m args below meth c Z EL own vm T' h k n → G T' { g with pc := g.pc + 3, stack := v :: rest }) : G T g := by
  obtain ⟨locs, X, eT, hZ, hown, r⟩ := S
  obtain ⟨T', X', e', st⟩ := RoadKit.getF X hx hZ hown w via eT F hg hs hd
  exact hG.st st (K T' ⟨locs, X', e', hZ, hown, r⟩)
theorem Sit.getS (hG : Cl p e below G) (S : Sit p l e R s m args below meth c Z EL own vm T h k n) (hx : p.tables.exec = Jvm.exec) {R0 O nm d host : String} {index : Nat} (w : (Jvm.Cond.fieldLink own index R0 nm d).before a0 Z = true ∨ (Jvm.Cond.fieldLinkNest own index R0 nm d host).before a0 Z = true) (via : Via Z R0 O nm d) {v : Value} (F : Sta Z h O nm d v)
    {g : JFrame} (hg : g.method = m) (hd : decode c.code g.pc = .ok (.getstatic index, 3)) (K : ∀ T', Sit p l e R s m args below meth c Z EL own vm T' h k n → G T' { g with pc := g.pc + 3, stack := v :: g.stack }) : G T g := by
  obtain ⟨locs, X, eT, hZ, hown, r⟩ := S
  obtain ⟨T', X', e', st⟩ := RoadKit.getS2 X hx hZ hown w via eT F hg hd
  exact hG.st st (K T' ⟨locs, X', e', hZ, hown, r⟩)
theorem fr_one {locs : List Loc} {sl : Nat} (N : Fr Z.heap.size locs) (ga : Z.heap.size ≤ a) : Fr Z.heap.size (locs ++ [⟨a, sl⟩]) := N.app fun y hy => by cases List.mem_singleton.mp hy; exact ga
theorem Sit.putF (hG : Cl p e below G) (S : Sit p l e R s m args below meth c Z EL own vm T h k n) (hx : p.tables.exec = Jvm.exec) {R0 O nm d host C : String} {index kk : Nat} {ty : FieldType} (w : (Jvm.Cond.fieldLink own index R0 nm d).before a0 Z = true ∨ (Jvm.Cond.fieldLinkNest own index R0 nm d host).before a0 Z = true) (via : Via Z R0 O nm d) {v old : Value} (F : Fld Z h a O nm d old) (E : Exa Z h a C)
    (L : (Jvm.Cond.lays C O nm d).before a0 Z = true ∨ ((Jvm.Cond.laysFinal C O nm d).before a0 Z = true ∧ own = O ∧ meth.name = "<init>")) (wi : (Jvm.Cond.instantiable C kk).before a0 Z = true) (hty : parseFieldDescriptor d = some ty) (hn : narrow ty v = v) (hf : fits ty v = true) (ga : Z.heap.size ≤ a) (sf : Safe Z EL vm h a)
    {g : JFrame} (hg : g.method = m) {rest : List Value} (hs : g.stack = v :: .ref a :: rest) (hd : decode c.code g.pc = .ok (.putfield index, 3)) (K : ∀ T' h', Sit p l e R s m args below meth c Z EL own vm T' h' k n → Stp Z EL vm h vm h' [a] → Wr h h' a (RoadKit.slotOf Z O nm d) v → Fld Z h' a O nm d v → G T' { g with pc := g.pc + 3, stack := rest }) : G T g := by
  obtain ⟨locs, X, eT, hZ, hown, ⟨j, hS, hj⟩, C0, N, r⟩ := S
  obtain ⟨T', h', X', e', W, st⟩ := RoadKit.putF X hx hZ hown w via eT F E L wi hty hn hf hg hs hd
  have J := Stp.of_wr W sf C0.1
  exact hG.st st (K T' h' ⟨_, X', e', hZ, hown, ⟨j, hS, Nat.le_trans hj J.1.1⟩, C0.trans J.2, fr_one N ga, r⟩ J W (F.same W))
theorem Sit.newO (hG : Cl p e below G) (S : Sit p l e R s m args below meth c Z EL own vm T h k n) (hx : p.tables.exec = Jvm.exec) {C : String} {index nn : Nat} (w : (Jvm.Cond.classLink own index C).before a0 Z = true) (wi : (Jvm.Cond.instantiable C nn).before a0 Z = true) (wz : (Jvm.Cond.initialized C).before a0 Z = true)
    {g : JFrame} (hg : g.method = m) (hd : decode c.code g.pc = .ok (.new index, 3)) (hc : k + 1 ≤ R.cells) (hl : n + nn ≤ R.slots)
    (K : ∀ T' h' x, x = h.size → Sit p l e R s m args below meth c Z EL own vm T' h' (k + 1) (n + nn) → Stp Z EL vm h vm h' [] → Safe Z EL vm h' x → Exa Z h' x C → (∀ {O nm d : String} {ty : FieldType}, Laid Z a0 C O nm d → parseFieldDescriptor d = some ty → Fld Z h' x O nm d (defaultValue ty)) → G T' { g with pc := g.pc + 3, stack := .ref x :: g.stack }) : G T g := by
  obtain ⟨locs, X, eT, hZ, hown, ⟨j, hS, hj⟩, C0, r⟩ := S
  obtain ⟨T', h', X', e', E, A, D, -, st⟩ := RoadKit.newO X hx hZ hown w wi wz eT hg hd hc hl
  exact hG.st st (K T' h' _ rfl ⟨locs, X', e', hZ, hown, ⟨j, hS, Nat.le_trans hj E.1⟩, C0.trans (CHr.ext E C0.1), r⟩ (Stp.of_ext E C0.1) (Safe.ext E C0.1 (Safe.new (Nat.le_refl _))) A D)
theorem Sit.newP (hG : Cl p e below G) (S : Sit p l e R s m args below meth c Z EL own vm T h k n) (hx : p.tables.exec = Jvm.exec) {aty : ArrayType} (w : (Jvm.Cond.arrayClass (newarray.typeOf aty)).before a0 Z = true) {g : JFrame} (hg : g.method = m) (hd : decode c.code g.pc = .ok (.newarray aty, 2)) {z : Int32} {rest : List Value} (hs : g.stack = .int z :: rest)
    (hz : ¬ z < 0) {cap : Nat} (hcap : z.toNatClampNeg ≤ cap) (hb : cap * 8 ≤ 536870912) (hc : k + 1 ≤ R.cells) (hl : n + cap ≤ R.slots)
    (K : ∀ T' h' x cA, x = h.size → Sit p l e R s m args below meth c Z EL own vm T' h' (k + 1) (n + cap) → Stp Z EL vm h vm h' [] → Safe Z EL vm h' x → Arv Z h' x cA (newarray.typeOf aty) z (List.replicate z.toNatClampNeg (defaultValue (newarray.typeOf aty))) (defaultValue (newarray.typeOf aty)) → G T' { g with pc := g.pc + 2, stack := .ref x :: rest }) : G T g := by
  obtain ⟨locs, X, eT, hZ, hown, ⟨j, hS, hj⟩, C0, r⟩ := S
  obtain ⟨T', h', cA, X', e', E, A, st⟩ := RoadKit.newP X hx hZ w eT hg hd hs hz hcap hb hc hl
  exact hG.st st (K T' h' _ cA rfl ⟨locs, X', e', hZ, hown, ⟨j, hS, Nat.le_trans hj E.1⟩, C0.trans (CHr.ext E C0.1), r⟩ (Stp.of_ext E C0.1) (Safe.ext E C0.1 (Safe.new (Nat.le_refl _))) ((Arv.new A hz).pad (pad_rep [] _ _)))
theorem Sit.stC (hG : Cl p e below G) (S : Sit p l e R s m args below meth c Z EL own vm T h k n) (hx : p.tables.exec = Jvm.exec) {kc : ClassId} {z : Int32} {vs : List Value} {d : Value} (V : Arv Z h a kc .char z vs d) (ga : Z.heap.size ≤ a) {j y : Int32} (hj : ¬ j < 0 ∧ j < z) (i : Nat) (hi : j.toNatClampNeg = i) (hil : i < vs.length)
    {g : JFrame} (hg : g.method = m) {rest : List Value} (hs : g.stack = .int y :: .int j :: .ref a :: rest) (hd : decode c.code g.pc = .ok (.castore, 1)) (K : ∀ T' h', Sit p l e R s m args below meth c Z EL own vm T' h' k n → Stp Z EL vm h vm h' [a] → Arv Z h' a kc .char z (vs.set i (.int (nar .char y))) d → G T' { g with pc := g.pc + 1, stack := rest }) : G T g := by
  obtain ⟨locs, X, eT, hZ, hown, ⟨jj, hS, hjj⟩, C0, N, r⟩ := S
  obtain ⟨cl, A, q1, q2, q3, q4, q5⟩ := V
  obtain ⟨T', h', X', e', W, st⟩ := RoadKit.stC X hx hZ eT A (inb_of q2 hj) hg hs hd
  have J := Stp.of_wr W (Safe.arr hZ.alike A (by decide)) C0.1
  exact hG.st st (K T' h' ⟨_, X', e', hZ, hown, ⟨jj, hS, Nat.le_trans hjj J.1.1⟩, C0.trans J.2, fr_one N ga, r⟩ J (Arv.set A q1 q2 q3 q4 q5 (fits_nar_char _) W i hi hil))
theorem Sit.stB (hG : Cl p e below G) (S : Sit p l e R s m args below meth c Z EL own vm T h k n) (hx : p.tables.exec = Jvm.exec) {kc : ClassId} {z : Int32} {vs : List Value} {d : Value} (V : Arv Z h a kc .byte z vs d) (ga : Z.heap.size ≤ a) (sf : Safe Z EL vm h a) {j y : Int32} (hj : ¬ j < 0 ∧ j < z) (i : Nat) (hi : j.toNatClampNeg = i) (hil : i < vs.length)
    {g : JFrame} (hg : g.method = m) {rest : List Value} (hs : g.stack = .int y :: .int j :: .ref a :: rest) (hd : decode c.code g.pc = .ok (.bastore, 1)) (K : ∀ T' h', Sit p l e R s m args below meth c Z EL own vm T' h' k n → Stp Z EL vm h vm h' [a] → Arv Z h' a kc .byte z (vs.set i (.int (nar .byte y))) d → G T' { g with pc := g.pc + 1, stack := rest }) : G T g := by
  obtain ⟨locs, X, eT, hZ, hown, ⟨jj, hS, hjj⟩, C0, N, r⟩ := S
  obtain ⟨cl, A, q1, q2, q3, q4, q5⟩ := V
  obtain ⟨T', h', X', e', W, st⟩ := RoadKit.stB X hx hZ eT A (inb_of q2 hj) hg hs hd
  have J := Stp.of_wr W sf C0.1
  exact hG.st st (K T' h' ⟨_, X', e', hZ, hown, ⟨jj, hS, Nat.le_trans hjj J.1.1⟩, C0.trans J.2, fr_one N ga, r⟩ J (Arv.set A q1 q2 q3 q4 q5 (fits_nar_byte _) W i hi hil))
theorem Sit.caload (hG : Cl p e below G) (S : Sit p l e R s m args below meth c Z EL own vm T h k n) (hx : p.tables.exec = Jvm.exec) {kc : ClassId} {z : Int32} {vs : List Value} {d : Value} (V : Arv Z h a kc .char z vs d) {j : Int32} (hj : ¬ j < 0 ∧ j < z) {v : Value} (hv : vs.getD j.toNatClampNeg d = v)
    {g : JFrame} (hg : g.method = m) {rest : List Value} (hs : g.stack = .int j :: .ref a :: rest) (hd : decode c.code g.pc = .ok (.caload, 1)) (q : G T { g with pc := g.pc + 1, stack := v :: rest }) : G T g := by
  obtain ⟨locs, X, eT, hZ, hown, r⟩ := S
  obtain ⟨cl, A, q1, q2, q3, q4, q5⟩ := V
  exact hG.st (fun t q => X.caload hx (by rw [eT]; exact A.1) (State.isArrayOf_alike hZ.alike A.2.1) A.2.2 (inb_of q2 hj) (q4.at (inb_of q2 hj) hv) hg hs hd t q) q
theorem Sit.aaload (hG : Cl p e below G) (S : Sit p l e R s m args below meth c Z EL own vm T h k n) (hx : p.tables.exec = Jvm.exec) {kc : ClassId} {ty : FieldType} {z : Int32} {vs : List Value} {d : Value} (V : Arv Z h a kc ty z vs d) (hty : ty.isReference = true) {j : Int32} (hj : ¬ j < 0 ∧ j < z) {v : Value} (hv : vs.getD j.toNatClampNeg d = v)
    {g : JFrame} (hg : g.method = m) {rest : List Value} (hs : g.stack = .int j :: .ref a :: rest) (hd : decode c.code g.pc = .ok (.aaload, 1)) (q : G T { g with pc := g.pc + 1, stack := v :: rest }) : G T g := by
  obtain ⟨locs, X, eT, hZ, hown, r⟩ := S
  obtain ⟨cl, A, q1, q2, q3, q4, q5⟩ := V
  exact hG.st (fun t q => X.aaload hx (by rw [eT]; exact A.1) (State.isArrayOf_alike hZ.alike A.2.1) hty A.2.2 (inb_of q2 hj) (q4.at (inb_of q2 hj) hv) hg hs hd t q) q
theorem Sit.arraylength (hG : Cl p e below G) (S : Sit p l e R s m args below meth c Z EL own vm T h k n) (hx : p.tables.exec = Jvm.exec) {kc : ClassId} {ty : FieldType} {z : Int32} {vs : List Value} {d : Value} (V : Arv Z h a kc ty z vs d)
    {g : JFrame} (hg : g.method = m) {rest : List Value} (hs : g.stack = .ref a :: rest) (hd : decode c.code g.pc = .ok (.arraylength, 1)) (q : G T { g with pc := g.pc + 1, stack := .int z :: rest }) : G T g := by
  obtain ⟨locs, X, eT, hZ, hown, r⟩ := S
  obtain ⟨cl, A, q1, q2, q3, q4, q5⟩ := V
  exact hG.st (fun t q => X.arraylength hx (by rw [eT]; exact A.1) (State.isArrayOf_alike hZ.alike A.2.1) hg hs hd t (by rw [len_of q2 q3]; exact q)) q
theorem Sit.acmp (hG : Cl p e below G) (S : Sit p l e R s m args below meth c Z EL own vm T h k n) (hx : p.tables.exec = Jvm.exec) {g : JFrame} (hg : g.method = m) {cd : ACond} {v w : Value} (h1 : v.isRef = true) (h2 : w.isRef = true) {rest : List Value} {o : Int} {pc0 pc' : Nat} {same : Bool} (hpc : g.pc = pc0)
    (hd : decode c.code g.pc = .ok (.if_acmp cd o, 3)) (hs : g.stack = w :: v :: rest) (hq : decide (v = w) = same) (ho : 0 ≤ (pc0 : Int) + o) (hp : pc' = if acV cd same = true then ((pc0 : Int) + o).toNat else pc0 + 3) (q : G T { g with pc := pc', stack := rest }) : G T g := by
  obtain ⟨_, X, -⟩ := S
  exact hG.st (fun t r => RoadKit.acmp X hx hg h1 h2 hpc hd hs hq ho hp r) q
theorem Sit.instNull (hG : Cl p e below G) (S : Sit p l e R s m args below meth c Z EL own vm T h k n) (hx : p.tables.exec = Jvm.exec) {g : JFrame} (hg : g.method = m) {rest : List Value} (hs : g.stack = .null :: rest) {i : Nat} (hd : decode c.code g.pc = .ok (.instanceof i, 3)) (q : G T { g with pc := g.pc + 3, stack := .int 0 :: rest }) : G T g := by
  obtain ⟨_, X, -⟩ := S
  exact hG.st (fun t r => X.instanceofNull hx hg hs hd t r) q
theorem Sit.castNull (hG : Cl p e below G) (S : Sit p l e R s m args below meth c Z EL own vm T h k n) (hx : p.tables.exec = Jvm.exec) {g : JFrame} (hg : g.method = m) {rest : List Value} (hs : g.stack = .null :: rest) {i : Nat} (hd : decode c.code g.pc = .ok (.checkcast i, 3)) (q : G T { g with pc := g.pc + 3 }) : G T g := by
  obtain ⟨_, X, -⟩ := S
  exact hG.st (fun t r => X.checkcastNull hx hg hs hd t r) q
theorem Sit.ldcI (hG : Cl p e below G) (S : Sit p l e R s m args below meth c Z EL own vm T h k n) (hx : p.tables.exec = Jvm.exec) {index : Nat} {z : Int32} (w : (Jvm.Cond.constant own index z).before a0 Z = true) {g : JFrame} (hg : g.method = m) (hd : decode c.code g.pc = .ok (.ldc index, 2)) (q : G T { g with pc := g.pc + 2, stack := .int z :: g.stack }) : G T g := by
  obtain ⟨_, X, _, hZ, hown, -⟩ := S
  exact hG.st (fun t r => X.ldcInt hx hown (mvT hZ w) hg hd t r) q
theorem Sit.initO (hG : Cl p e below G) (S : Sit p l e R s m args below meth c Z EL own vm T h k n) (hx : p.tables.exec = Jvm.exec) {idx : Nat} (w1 : (Jvm.Cond.methodLink own idx Lib.objectInit).before a0 Z = true) (w2 : (Jvm.Cond.instanceMethod Lib.objectInit).before a0 Z = true) (w3 : (Jvm.Cond.code Lib.objectInit ⟨#[0xb1]⟩ 1 none).before a0 Z = true)
    {g : JFrame} (hg : g.method = m) (hsize : g.locals.size = c.maxLocals) {rest : List Value} (hs : g.stack = .ref a :: rest) (hd : decode c.code g.pc = .ok (.invokespecial idx, 3)) (hf : 1 ≤ R.frames) {W : Nat} (hW : 2 * g.monitorRoom + (rest.map fun v => v.category).sum ≤ W) (hl : W + 12 ≤ R.locals)
    (K : ∀ T', Sit p l e R s m args below meth c Z EL own vm T' h k n → G T' { g with pc := g.pc + 3, stack := rest }) : G T g := by
  obtain ⟨locs, X, eT, hZ, hown, r⟩ := S
  obtain ⟨T', X', e', st⟩ := RoadKit.initO X hx hZ hown w1 w2 w3 eT hg hsize hs hd hf hW hl
  exact hG.st st (K T' ⟨locs, X', e', hZ, hown, r⟩)
theorem Sit.castY (hG : Cl p e below G) (S : Sit p l e R s m args below meth c Z EL own vm T h k n) (hx : p.tables.exec = Jvm.exec) {K0 : String} {index : Nat} (w : (Jvm.Cond.classLink own index K0).before a0 Z = true) (F : Ins Z h a K0 true)
    {g : JFrame} (hg : g.method = m) {rest : List Value} (hs : g.stack = .ref a :: rest) (hd : decode c.code g.pc = .ok (.checkcast index, 3)) (K : ∀ T', Sit p l e R s m args below meth c Z EL own vm T' h k n → G T' { g with pc := g.pc + 3 }) : G T g := by
  obtain ⟨locs, X, eT, hZ, hown, r⟩ := S
  obtain ⟨T', X', e', st⟩ := RoadKit.castY X hx hZ hown w eT F hg hs hd
  exact hG.st st (K T' ⟨locs, X', e', hZ, hown, r⟩)
theorem Sit.cloneA (hG : Cl p e below G) (S : Sit p l e R s m args below meth c Z EL own vm T h k n) (hx : p.tables.exec = Jvm.exec) {ad : String} {index : Nat}
    (w1 : (Jvm.Cond.methodLink own index ⟨ad, "clone", "()Ljava/lang/Object;"⟩).before a0 Z = true) (w2 : (Jvm.Cond.sameMethod ad "java/lang/Object" "clone" "()Ljava/lang/Object;").before a0 Z = true) (w3 : (Jvm.Cond.native ⟨"java/lang/Object", "clone", "()Ljava/lang/Object;"⟩).before a0 Z = true)
    (w4 : (Jvm.Cond.instanceMethod ⟨"java/lang/Object", "clone", "()Ljava/lang/Object;"⟩).before a0 Z = true) (w5 : (Jvm.Cond.selects ad ⟨ad, "clone", "()Ljava/lang/Object;"⟩ ⟨"java/lang/Object", "clone", "()Ljava/lang/Object;"⟩).before a0 Z = true) (w6 : (Jvm.Cond.castable ad "java/lang/Cloneable").before a0 Z = true)
    {kc : ClassId} {ty : FieldType} {z : Int32} {vs : List Value} {d : Value} (F : Arv Z h a kc ty z vs d) (E : Exa Z h a ad) {g : JFrame} (hg : g.method = m) (hsize : g.locals.size = c.maxLocals) {rest : List Value} (hst : g.stack = .ref a :: rest) (hd : decode c.code g.pc = .ok (.invokevirtual index, 3))
    (hf : 1 ≤ R.frames) {W cap : Nat} (hW : 2 * g.monitorRoom + (rest.map fun v => v.category).sum ≤ W) (hl : W + 14 ≤ R.locals) (hcap : z.toNatClampNeg ≤ cap) (hc : k + 1 ≤ R.cells) (hsl : n + cap ≤ R.slots)
    (K : ∀ T' h' x, x = h.size → Sit p l e R s m args below meth c Z EL own vm T' h' (k + 1) (n + cap) → Stp Z EL vm h vm h' [] → Arv Z h' x kc ty z vs d → Exa Z h' x ad → G T' { g with pc := g.pc + 3, stack := .ref x :: rest }) : G T g := by
  obtain ⟨locs, X, eT, hZ, hown, ⟨j, hS, hj⟩, C0, r⟩ := S
  obtain ⟨T', h', X', e', E', A, D, st⟩ := RoadKit.cloneH X hx hZ hown w1 w2 w3 w4 w5 w6 eT F.arh E hg hsize hst hd hf hW hl hcap hc hsl
  exact hG.st st (K T' h' _ rfl ⟨locs, X', e', hZ, hown, ⟨j, hS, Nat.le_trans hj E'.1⟩, C0.trans (CHr.ext E' C0.1), r⟩ (Stp.of_ext E' C0.1) A D)
theorem Sit.ldc (hG : Cl p e below G) (S : Sit p l e R s m args below meth c Z EL own vm T h k n) (hx : p.tables.exec = Jvm.exec) (hEL : EW Z a0 EL) {text : String} {index : Nat} (w : (Jvm.Cond.stringLink own index text).before a0 Z = true) (wS : ∀ a ∈ Bundle.stringAtoms, a.before a0 Z = true) (hmem : (own, index) ∈ EL) {cs : List Int32}
    (ht : (∀ c ∈ text.toList, c.toNat < 256) ∧ text.toList.map (fun c => Value.int (Jvm.Lit.byteI c.toNat.toUInt16)) = (cs.map fun c => c.toInt8.toInt32).map Value.int) (hcs : ∀ c ∈ cs, ¬ c < 0 ∧ ¬ (255 : Int32) < c) (hlen : cs.length ≤ 4000)
    {g : JFrame} (hg : g.method = m) (hd : decode c.code g.pc = .ok (.ldc index, 2)) {nn : Nat} (hn : 4 * text.toList.length ≤ nn) (hbig : nn ≤ 536870912) (hc : k + 2 ≤ R.cells) (hl' : n + (nn + 4) ≤ R.slots)
    (K : ∀ vm' T' h' a b, Sit p l e R s m args below meth c Z EL own vm' T' h' (k + 2) (n + (nn + 4)) → Stp Z EL vm h vm' h' [] → Str Z h' a b cs → (∀ x, Safe Z EL vm' h' x → x ≠ a ∧ x ≠ b) → G T' { g with pc := g.pc + 2, stack := .ref a :: g.stack }) : G T g := by
  obtain ⟨locs, X, eT, hZ, hown, ⟨j, hS, hj⟩, C0, N, O, r⟩ := S
  have hz : ¬ Int32.ofNat cs.length < 0 := by rw [Int32.lt_iff_toInt_lt, Int32.toInt_ofNat_small (by omega)]; exact Int.not_lt.mpr (Int.natCast_nonneg _)
  have hl : (Int32.ofNat cs.length).toNatClampNeg = ((cs.map fun c => c.toInt8.toInt32).map Value.int).length := by simp [Int32.toNatClampNeg, Int32.toInt_ofNat_small (show cs.length < 2 ^ 31 by omega)]
  obtain ⟨a, T', h', k1, b, kb, X', e', E, hS', hk', hZ', hown', E1, F1, F2, V1, -, -, C1, -, sf, st⟩ := ldcCH X hx hZ hown w wS eT hS hj hEL hmem C0.1 ht hz hl hg hd hn hbig hc hl'
  exact hG.st st (K _ T' h' a b ⟨locs, X', e', hZ', hown', ⟨k1, hS', hk'⟩, C0.trans C1, N, O, r⟩ ⟨(Keep.refl _ _).ext E, C1⟩ ⟨kb, E1, F2, F1, V1, hcs, hlen⟩ sf)
theorem afterS {locs L : List Loc} {U : State} {k' n' : Nat} (eT : T.heap = h) (hZ : Z.Warmed39 vm) (hown : vm.findClass own = some m.cls) (hS : ∃ j, s.Since vm j ∧ j ≤ h.size) (C : CHr Z EL s.vm s.heap vm h) (N : Fr Z.heap.size locs) (O : Ext Z.heap s.heap)
    (X' : Stand p l e R ((s.setVm vm).setVm U.vm) m args below meth c U (locs ++ L) k' n') (h2 : (s.setVm vm).Since U.vm U.heap.size) (g2 : T.heap.size ≤ U.heap.size) (N' : Fr Z.heap.size L) (C' : CHr Z EL vm h U.vm U.heap) : Sit p l e R s m args below meth c Z EL own U.vm U U.heap k' n' := by
  obtain ⟨j, hS, hj⟩ := hS
  obtain ⟨q1, q2, q3, q4⟩ := rebS (Z := Z) (own := own) hS hj X' h2 (eT ▸ g2) hZ hown
  exact ⟨_, q1, rfl, q3, q4, ⟨_, q2, Nat.le_refl _⟩, C.trans C', N.app N', O, trivial⟩
/-- calls by contract -/
theorem Sit.callS (hG : Cl p e below G) (S : Sit p l e R s m args below meth c Z EL own vm T h k n) (hx : p.tables.exec = Jvm.exec) (hEL : EW Z a0 EL) {index : Nat} {y : MethodName} {bytes : ByteArray} {maxL : Nat} {ret : Option FieldType} {rm : Room} {as : List Value} {Q : Option Value → Heap → Prop}
    (wl : (Jvm.Cond.methodLink own index y).before a0 Z = true) (wt : (Jvm.Cond.static y).before a0 Z = true) (wz : (Jvm.Cond.initialized y.cls).before a0 Z = true) (wc : (Jvm.Cond.code y bytes maxL ret).before a0 Z = true) (hy : y.cls ≠ "java/lang/invoke/MethodHandle" ∧ y.cls ≠ "java/lang/invoke/VarHandle")
    (hM : Con l Z EL y bytes maxL ret [] rm as.toArray h Q) {ps : List FieldType} {r : Option FieldType} (hd0 : parseMethodDescriptor y.desc = some ⟨ps, r⟩) (hlen : as.length = ps.length)
    {g : JFrame} (hg : g.method = m) (hsize : g.locals.size = c.maxLocals) {rest : List Value} (hs : g.stack = as.reverse ++ rest) {W : Nat} (hW : 2 * g.monitorRoom + (rest.map fun v => v.category).sum ≤ W) (hd : decode c.code g.pc = .ok (.invokestatic index, 3))
    (hf : rm.frames + 1 ≤ R.frames) (hl : W + (maxL + 11) + rm.locals ≤ R.locals) (hc : k + rm.cells ≤ R.cells) (hsl : n + rm.slots ≤ R.slots)
    (K : ∀ v vm' T' h', Sit p l e R s m args below meth c Z EL own vm' T' h' (k + rm.cells) (n + rm.slots) → CHr Z EL vm h vm' h' → Q v h' → G T' { g with pc := g.pc + 3, stack := v.toList ++ rest }) : G T g := by
  obtain ⟨locs, X, eT, hZ, hown, hS, C, N, O, hn⟩ := S
  obtain ⟨v, vm1, ⟨U, L', k', n'⟩, -, X', h2, g2, ⟨L, ⟨hQ, hF⟩, q1, q2, q3, hC⟩, st⟩ := callSS X hx hown (mvT hZ wl) (mvT hZ wt) (mvT hZ wz) (mvT hZ wc) hy (backOfSH (W := W) (Q := fun v h L => Q v h ∧ Fr Z.heap.size L) hM hZ wc wz hf hl hEL C.1) hg hsize (lenOf hd0 hlen) hs hW hd (fun _ _ => ⟨rfl, eT, hc, hsl⟩)
  dsimp only [Pt.U, Pt.locs, Pt.cells, Pt.slots] at X' h2 g2 hQ q1 q2 q3 hC st
  subst q1 q2 q3
  exact hG.st (fun t q => st.trans q) (K v U.vm U U.heap (afterS eT hZ hown hS C N O X' h2 g2 hF hC) hC hQ)
theorem Sit.callV (hG : Cl p e below G) (S : Sit p l e R s m args below meth c Z EL own vm T h k n) (hx : p.tables.exec = Jvm.exec) (hEL : EW Z a0 EL) {C : String} {index : Nat} {y : MethodName} {bytes : ByteArray} {maxL : Nat} {ret : Option FieldType} {rm : Room} {as : List Value} {Q : Option Value → Heap → Prop}
    (wl : (Jvm.Cond.methodLink own index y).before a0 Z = true) (wd : (Jvm.Cond.declares y).before a0 Z = true) (wsl : (Jvm.Cond.selects C y y).before a0 Z = true) (wim : (Jvm.Cond.instanceMethod y).before a0 Z = true) (wz : (Jvm.Cond.initialized y.cls).before a0 Z = true) (wc : (Jvm.Cond.code y bytes maxL ret).before a0 Z = true) (hy : y.cls ≠ "java/lang/invoke/MethodHandle" ∧ y.cls ≠ "java/lang/invoke/VarHandle")
    (E : Exa Z h b C) (hM : Con l Z EL y bytes maxL ret [] rm (.ref b :: as).toArray h Q) {ps : List FieldType} {r : Option FieldType} (hd0 : parseMethodDescriptor y.desc = some ⟨ps, r⟩) (hlen : as.length = ps.length)
    {g : JFrame} (hg : g.method = m) (hsize : g.locals.size = c.maxLocals) {rest : List Value} (hs : g.stack = as.reverse ++ .ref b :: rest) {W : Nat} (hW : 2 * g.monitorRoom + (rest.map fun v => v.category).sum ≤ W) (hd : decode c.code g.pc = .ok (.invokevirtual index, 3))
    (hf : rm.frames + 1 ≤ R.frames) (hl : W + (maxL + 11) + rm.locals ≤ R.locals) (hc : k + rm.cells ≤ R.cells) (hsl : n + rm.slots ≤ R.slots)
    (K : ∀ v vm' T' h', Sit p l e R s m args below meth c Z EL own vm' T' h' (k + rm.cells) (n + rm.slots) → CHr Z EL vm h vm' h' → Q v h' → G T' { g with pc := g.pc + 3, stack := v.toList ++ rest }) : G T g := by
  obtain ⟨locs, X, eT, hZ, hown, hS, C, N, O, hn⟩ := S
  obtain ⟨cB, kB, i1, -, i2⟩ := isOf (s := s.setVm vm) hZ eT E
  obtain ⟨v, vm1, ⟨U, L', k', n'⟩, -, X', h2, g2, ⟨L, ⟨hQ, hF⟩, q1, q2, q3, hC⟩, st⟩ := X.virtualBackS hx (y := y) (z := y) hown (mvT hZ wl) (mvT hZ wd) (notFace_of_selects (args := #[]) (mvT hZ wsl)) (mvT hZ wsl) (mvT hZ wim) hy (backOfSH (W := W) (Q := fun v h L => Q v h ∧ Fr Z.heap.size L) hM hZ wc wz hf hl hEL C.1) i1 i2 hg hsize (Steps.refl _) (argsL := as) (lenOf hd0 hlen) hs hW hd (fun _ _ => ⟨rfl, eT, hc, hsl⟩)
  dsimp only [Pt.U, Pt.locs, Pt.cells, Pt.slots] at X' h2 g2 hQ q1 q2 q3 hC st
  subst q1 q2 q3
  exact hG.st (fun t q => st.trans q) (K v U.vm U U.heap (afterS eT hZ hown hS C N O X' h2 g2 hF hC) hC hQ)
theorem Sit.callI (hG : Cl p e below G) (S : Sit p l e R s m args below meth c Z EL own vm T h k n) (hx : p.tables.exec = Jvm.exec) (hEL : EW Z a0 EL) {index : Nat} {y : MethodName} (hy1 : y.name = "<init>") {bytes : ByteArray} {maxL : Nat} {rm : Room} {as : List Value} {Q : Option Value → Heap → Prop}
    (wl : (Jvm.Cond.methodLink own index y).before a0 Z = true) (wim : (Jvm.Cond.instanceMethod y).before a0 Z = true) (wz : (Jvm.Cond.initialized y.cls).before a0 Z = true) (wc : (Jvm.Cond.code y bytes maxL none).before a0 Z = true) (hy : y.cls ≠ "java/lang/invoke/MethodHandle" ∧ y.cls ≠ "java/lang/invoke/VarHandle")
    (hM : Con l Z EL y bytes maxL none [] rm (.ref b :: as).toArray h Q) {ps : List FieldType} {r : Option FieldType} (hd0 : parseMethodDescriptor y.desc = some ⟨ps, r⟩) (hlen : as.length = ps.length)
    {g : JFrame} (hg : g.method = m) (hsize : g.locals.size = c.maxLocals) {rest : List Value} (hs : g.stack = as.reverse ++ .ref b :: rest) {W : Nat} (hW : 2 * g.monitorRoom + (rest.map fun v => v.category).sum ≤ W) (hd : decode c.code g.pc = .ok (.invokespecial index, 3))
    (hf : rm.frames + 1 ≤ R.frames) (hl : W + (maxL + 11) + rm.locals ≤ R.locals) (hc : k + rm.cells ≤ R.cells) (hsl : n + rm.slots ≤ R.slots)
    (K : ∀ v vm' T' h', Sit p l e R s m args below meth c Z EL own vm' T' h' (k + rm.cells) (n + rm.slots) → CHr Z EL vm h vm' h' → Q v h' → G T' { g with pc := g.pc + 3, stack := v.toList ++ rest }) : G T g := by
  obtain ⟨locs, X, eT, hZ, hown, hS, C, N, O, hn⟩ := S
  obtain ⟨v, vm1, ⟨U, L', k', n'⟩, -, X', h2, g2, ⟨L, ⟨hQ, hF⟩, q1, q2, q3, hC⟩, st⟩ := X.specialBackS hx (y := y) hy1 hown (mvT hZ wl) (mvT hZ wim) (mvT hZ wc) hy (backOfSH (W := W) (Q := fun v h L => Q v h ∧ Fr Z.heap.size L) hM hZ wc wz hf hl hEL C.1) hg hsize (Steps.refl _) (a := b) (argsL := as) (lenOf hd0 hlen) hs hW hd (fun _ _ => ⟨rfl, eT, hc, hsl⟩)
  dsimp only [Pt.U, Pt.locs, Pt.cells, Pt.slots] at X' h2 g2 hQ q1 q2 q3 hC st
  subst q1 q2 q3
  exact hG.st (fun t q => st.trans q) (K v U.vm U U.heap (afterS eT hZ hown hS C N O X' h2 g2 hF hC) hC hQ)
theorem Sit.retN {t : FieldType} {Q : Option Value → Heap → Prop} (hR : Rt p l e R s m args below meth c Z EL own Q G) (S : Sit p l e R s m args below meth c Z EL own vm T h k n) (hx : p.tables.exec = Jvm.exec) (hret : meth.sig.returnType = some t) (ht : t = .boolean ∨ t = .byte ∨ t = .char ∨ t = .short) {pc : Nat} {Ls : Array Slot} {z : Int32} {rest : List Value} (hd : decode c.code pc = .ok (.ireturn, 1)) (hk : k ≤ R.cells) (hn : n ≤ R.slots) (hQ : Q (some (.int (nar t z))) h) : G T (mkF m pc Ls (.int z :: rest)) :=
  hR vm T h k n _ _ S hk hn (fun q => by rw [hret] at q; cases q) hQ (fun fs hr => by obtain ⟨_, X, -⟩ := S; exact RoadKit.retN X hx hret ht hd hr)
theorem Sit.retO {t : FieldType} {i : Instr} {Q : Option Value → Heap → Prop} (hR : Rt p l e R s m args below meth c Z EL own Q G) (S : Sit p l e R s m args below meth c Z EL own vm T h k n) (hx : p.tables.exec = Jvm.exec) (hret : meth.sig.returnType = some t) {pc : Nat} {Ls : Array Slot} {w : Value} {rest : List Value} (hnw : narrow t w = w)
    (hi : (i = .ireturn ∧ (t = .int ∨ t = .boolean ∨ t = .byte ∨ t = .char ∨ t = .short) ∧ ∃ z, w = .int z) ∨ (i = .lreturn ∧ t = .long ∧ ∃ z, w = .long z) ∨ (i = .dreturn ∧ t = .double ∧ ∃ z, w = .double z) ∨ (i = .freturn ∧ t = .float ∧ ∃ z, w = .float z) ∨ (i = .areturn ∧ t.isReference = true ∧ w.isRef = true))
    (hd : decode c.code pc = .ok (i, 1)) (hk : k ≤ R.cells) (hn : n ≤ R.slots) (hQ : Q (some w) h) : G T (mkF m pc Ls (w :: rest)) :=
  hR vm T h k n _ _ S hk hn (fun q => by rw [hret] at q; cases q) hQ (fun fs hr => by obtain ⟨_, X, -⟩ := S; exact RoadKit.retOut X hx hret hnw hi hd hr)
theorem Sit.ret0 {Q : Option Value → Heap → Prop} (hR : Rt p l e R s m args below meth c Z EL own Q G) (S : Sit p l e R s m args below meth c Z EL own vm T h k n) (hx : p.tables.exec = Jvm.exec) (hret : meth.sig.returnType = none) {pc : Nat} {Ls : Array Slot} (hd : decode c.code pc = .ok (.return_, 1)) (hk : k ≤ R.cells) (hn : n ≤ R.slots) (hQ : Q none h) : G T (mkF m pc Ls []) :=
  hR vm T h k n _ _ S hk hn (fun q => rfl) hQ (fun fs hr => by obtain ⟨_, X, -⟩ := S; exact X.returnOut hx hret hd hr)
theorem Con.of {y : MethodName} {bytes : ByteArray} {maxL : Nat} {ret : Option FieldType} {cw : List Jvm.Cond} {rm : Room} {as : Array Value} {Q : Option Value → Heap → Prop} (hp : plainFor y = true) (hEL : EW Z a0 EL) (hO : Ext Z.heap h)
    (body : ∀ {p : Program} {e : Env} {s : State} {m : MethodId} {below : List Frame} {meth : Method} {c : Code} {T : State} {G : State → JFrame → Prop} {vm : Vm}, p.tables.exec = Jvm.exec → c.code = bytes → c.maxLocals = maxL → meth.sig.returnType = ret → meth.name = y.name → Cl p e below G → Rt p l e rm s m as below meth c Z EL y.cls Q G → Sit p l e rm s m as below meth c Z EL y.cls vm T h 0 0 → G T (entryFrame m as maxL)) :
    Con l Z EL y bytes maxL ret cw rm as h Q := by
  refine MetFree.of_bodySF hp hisR ?_
  intro p e s m args below meth c s₁ Bd hml0 hP hK
  obtain ⟨rfl, hZ, rfl, hC⟩ := hP
  have X0 : Stand p l e rm s m args below meth c s₁ [] 0 0 := Stand.of_body Bd
  have e0 : s₁.heap = s.heap := by rw [Bd.state]; rfl
  have hlk : meth.locks = false := Bd.notSynchronized
  have hX : Stand p l e rm (s.setVm s.vm) m args below meth c s₁ [] 0 0 := by rw [State.setVm_self]; exact X0
  refine body (G := fun T g => ∃ s₂ o, Steps p.tables e below (T.setTop g) s₂ ∧ s₂.status = .running ∧ Ended s₂ below o ∧ ∃ v L, o = .returned v ∧ (Q v s₂.heap ∧ Fr Z.heap.size L) ∧ CHr Z EL s.vm s.heap s₂.vm s₂.heap ∧ ReturnedEndW s o s₂ L rm.cells rm.slots) (vm := s.vm) Bd.exec Bd.bytes hml0 Bd.returns (name_of_methodNamed Bd.named Bd.method).1 (fun T T' g g' f ⟨s₂, o, st, r⟩ => ⟨s₂, o, f _ st, r⟩) ?_
    ⟨[], hX, e0, hZ, findClass_of_methodNamed Bd.named, ⟨_, (State.WarmedH.refl s).since _, Nat.le_refl _⟩, CHr.refl hC, Fr.nil _, hO, trivial⟩
  intro vm T h k n v g S hk hn hv hQ hst
  obtain ⟨locs, X, rfl, hZ', hown', ⟨j, hS, hj⟩, C0, N, O, hN⟩ := S
  obtain ⟨fs, hr, hrun, hended, hend⟩ := X.leaveW hS hj hv hlk
  exact ⟨_, _, hst fs hr, hrun, hended, v, locs, rfl, ⟨hQ, N⟩, C0.trans (show CHr Z EL vm T.heap T.vm T.heap from CHv.at X hZ' hEL C0.1), hend.1, hend.2.1, hend.2.2.1, hend.2.2.2.mono hk hn⟩
end L
end Jvm.Pilot.@@N@@.Own
namespace Jvm.Pilot.@@N@@.Own
open Jvm Jvm.ClassFile Sem Op Lib Jvm.Free Jvm.Stand Jvm.LawKit Jvm.RoadKit
section L2
variable {p : Program} {l : Launch} {e : Env} {R : Room} {s : State} {m : MethodId} {args : Array Value} {below : List Frame} {meth : Method} {c : Code} {Z : State} {EL : List (String × Nat)} {own : String} {a0 : Array Value} {vm vm' vm'' : Vm} {T T' : State} {h h' h'' : Heap} {k n : Nat} {G : State → JFrame → Prop} {ws ws' us : List Addr} {x a b t : Addr}
/-- COMPACT_STRINGS is on -/
def Cmp (Z : State) : Prop := ∃ z : Int32, Sta Z Z.heap ST "COMPACT_STRINGS" "Z" (.int z) ∧ ¬ z = 0
def Sio (Z : State) : Prop := ∃ fm : Value, Sta Z Z.heap "jdk/internal/util/Preconditions" "SIOOBE_FORMATTER" "Ljava/util/function/BiFunction;" fm ∧ fm.isRef = true
theorem up (cs : List Int32) (h : ∀ c ∈ cs, ¬ c < 0 ∧ ¬ (255 : Int32) < c) : ∀ c ∈ cs, ¬ c < 0 ∧ ¬ (65535 : Int32) < c := fun c hc => ⟨(h c hc).1, fun q => (h c hc).2 (by rw [Int32.lt_iff_toInt_lt] at q ⊢; have e1 : (65535 : Int32).toInt = 65535 := rfl; have e2 : (255 : Int32).toInt = 255 := rfl; omega)⟩
/-- a pure virtual call paid by a Back -/
theorem Sit.pureV (hG : Cl p e below G) (S : Sit p l e R s m args below meth c Z EL own vm T h k n) (hx : p.tables.exec = Jvm.exec) {C : String} {index : Nat} {y : MethodName} {as : List Value} {Q : Option Value → Prop}
    (wl : (Jvm.Cond.methodLink own index y).before a0 Z = true) (wd : (Jvm.Cond.declares y).before a0 Z = true) (wsl : (Jvm.Cond.selects C y y).before a0 Z = true) (wim : (Jvm.Cond.instanceMethod y).before a0 Z = true) (hy : y.cls ≠ "java/lang/invoke/MethodHandle" ∧ y.cls ≠ "java/lang/invoke/VarHandle")
    (E : Exa Z h b C) {W : Nat} (hK : Back l R p e below (s.setVm vm) args y 3 W (fun P a => a = (.ref b :: as).toArray ∧ P.U.heap = h ∧ P.cells + 0 ≤ R.cells ∧ P.slots + 0 ≤ R.slots) (fun P _ v B => ∃ L, (Q v ∧ L = [] ∧ B.U.heap = h) ∧ B.locs = P.locs ++ L ∧ B.cells = P.cells + 0 ∧ B.slots = P.slots + 0))
    {ps : List FieldType} {r : Option FieldType} (hd0 : parseMethodDescriptor y.desc = some ⟨ps, r⟩) (hlen : as.length = ps.length)
    {g : JFrame} (hg : g.method = m) (hsize : g.locals.size = c.maxLocals) {rest : List Value} (hs : g.stack = as.reverse ++ .ref b :: rest) (hW : 2 * g.monitorRoom + (rest.map fun v => v.category).sum ≤ W) (hd : decode c.code g.pc = .ok (.invokevirtual index, 3)) (hc : k ≤ R.cells) (hsl : n ≤ R.slots)
    (K : ∀ v T', Sit p l e R s m args below meth c Z EL own vm T' h k n → Q v → G T' { g with pc := g.pc + 3, stack := v.toList ++ rest }) : G T g := by
  obtain ⟨locs, X, eT, hZ, hown, hS, C, N, O, hn⟩ := S
  obtain ⟨cB, kB, i1, -, i2⟩ := isOf (s := s.setVm vm) hZ eT E
  obtain ⟨v, vm1, ⟨U, L', k', n'⟩, -, X', ⟨L, ⟨hq, hL, hU⟩, q1, q2, q3⟩, st⟩ := X.virtualBack hx (y := y) (z := y) hown (mvT hZ wl) (mvT hZ wd) (notFace_of_selects (args := #[]) (mvT hZ wsl)) (mvT hZ wsl) (mvT hZ wim) hy hK i1 i2 hg hsize (Steps.refl _) (argsL := as) (lenOf hd0 hlen) hs hW hd (fun _ _ => ⟨rfl, eT, hc, hsl⟩)
  dsimp only [Pt.U, Pt.locs, Pt.cells, Pt.slots] at X' hU q1 q2 q3 st
  subst q1 q2 q3 hL
  rw [List.append_nil] at X'
  exact hG.st (fun t q => st.trans q) (K v U ⟨locs, X', hU, hZ, hown, hS, C, N, O, hn⟩ hq)
section Nw
variable {args : Array Value} {u v : Term} {z : Int32} {vs : List Value} {dv : Value} {ty : FieldType} {cs : List Int32}
theorem eqI (h : (Jvm.Cond.eq u v).value args s none s [] = some true) (hb : v.eval args s none [] s = some (.int z)) : u.eval args s none [] s = some (.int z) := by
  obtain ⟨x, y, h1, h2, h3, h4⟩ := cmp_v (Or.inl h)
  cases h2.symm.trans hb
  obtain ⟨w, rfl⟩ := h4
  have := gotT (Cond.eq_ints h1 hb) h
  rw [h1, this]
theorem eqR (h : (Jvm.Cond.eq u v).value args s none s [] = some true) (hb : v.eval args s none [] s = some (.ref a)) : u.eval args s none [] s = some (.ref a) := by
  obtain ⟨x, y, h1, h2, h3, h4⟩ := cmp_v (Or.inl h)
  cases h2.symm.trans hb
  have := gotT (eq_R h1 hb h4.2 rfl) h
  rw [h1, this]
theorem eqR2 (h : (Jvm.Cond.eq u v).value args s none s [] = some true) (hb : u.eval args s none [] s = some (.ref a)) : v.eval args s none [] s = some (.ref a) := by
  obtain ⟨x, y, h1, h2, h3, h4⟩ := cmp_v (Or.inl h)
  cases h1.symm.trans hb
  have := gotT (eq_R hb h2 rfl h3.2) h
  rw [h2, ← this]
theorem arvOf (hf : Fit s) (ev : u.eval args s none [] s = some (.ref a)) (hA : (Jvm.Cond.arrayOf u ty).value args s none s [] = some true) (hl : (Jvm.Cond.eq (.length u) (.int z)).value args s none s [] = some true) (hz : ¬ z < 0) (hn : z.toNatClampNeg = vs.length)
    (hv : ∀ i (hi : i < vs.length), (Term.elem u (.int (Int32.ofNat i))).eval args s none [] s = some vs[i]) : ∃ kc, Arv s s.heap a kc ty z vs dv := by
  obtain ⟨cl, A⟩ := Arr.start ev hA
  have hlen := eqI hl (Term.int_eval z)
  have hat : s.arrayAt? a = some cl := A.fin ⟨rfl, rfl, fun _ k hk => ⟨k, hk, rfl⟩⟩
  have h31 := SBG.length_lt ev hat hlen
  have hs : cl.slots.size.toInt32 = z := by
    have := (len_f ev hat h31).symm.trans hlen
    simpa using this
  have hsz : cl.slots.size = z.toNatClampNeg := by
    rw [← hs]
    show _ = (Int32.ofNat cl.slots.size).toNatClampNeg
    simp [Int32.toNatClampNeg, Int32.toInt_ofNat_small h31]
  have hel : ∀ i, i < cl.slots.size → cl.slots[i]? = some (vs.getD i dv) := fun i hi => by
    have hi' : i < vs.length := by omega
    have q := elem_in (hv i hi') ev (Term.int_eval _) A.1
    have e : (Int32.ofNat i).toNatClampNeg = i := by simp [Int32.toNatClampNeg, Int32.toInt_ofNat_small (show i < 2 ^ 31 by omega)]
    rw [e] at q
    rw [q.2]; simp [hi']
  refine ⟨cl.cls, cl, A, rfl, hsz, hz, hel, fun i hi => ?_⟩
  have e : (Int32.ofNat i).toNatClampNeg = i := by simp [Int32.toNatClampNeg, Int32.toInt_ofNat_small (show i < 2 ^ 31 by omega)]
  have hnn : ¬ (Int32.ofNat i < 0 ∨ cl.slots.size ≤ (Int32.ofNat i).toNatClampNeg) := by
    rw [e, Int32.lt_iff_toInt_lt, Int32.toInt_ofNat_small (show i < 2 ^ 31 by omega)]
    have : (0 : Int32).toInt = 0 := rfl
    omega
  obtain ⟨w, hw1, hw2⟩ := elem_fit hf A hnn
  rw [e, hel i hi] at hw1
  cases hw1
  exact hw2
theorem strOf (hf : Fit s) (ev : u.eval args s none [] s = some (.ref x)) (E : Exa s s.heap x ST) (hc : (Term.field u ST "coder" "B").eval args s none [] s = some (.int 0)) (hv : (Term.field u ST "value" "[B").eval args s none [] s = some (.ref t))
    (hA : (Jvm.Cond.arrayOf (.field u ST "value" "[B") .byte).value args s none s [] = some true) (hl : (Jvm.Cond.eq (.length (.field u ST "value" "[B")) (.int (Int32.ofNat cs.length))).value args s none s [] = some true) (hr : ∀ c ∈ cs, ¬ c < 0 ∧ ¬ (255 : Int32) < c) (hn : cs.length ≤ 4000) (hz : (Int32.ofNat cs.length).toNatClampNeg = cs.length)
    (he : ∀ i (hi : i < cs.length), (Term.elem (.field u ST "value" "[B") (.int (Int32.ofNat i))).eval args s none [] s = some (.int (cs[i]).toInt8.toInt32)) : Str s s.heap x t cs := by
  have hz0 : ¬ Int32.ofNat cs.length < 0 := by
    rw [Int32.lt_iff_toInt_lt, Int32.toInt_ofNat_small (by omega)]
    exact Int.not_lt.mpr (Int.natCast_nonneg _)
  obtain ⟨kc, A⟩ := arvOf (dv := .int 0) (vs := (cs.map fun c => c.toInt8.toInt32).map Value.int) hf hv hA hl hz0 (by rw [hz]; simp) (fun i hi => by
    have hi' : i < cs.length := by simpa using hi
    rw [he i hi']; simp)
  exact ⟨kc, E, Fld.start ((fld_at ev).symm.trans hv), Fld.start ((fld_at ev).symm.trans hc), A, hr, hn⟩
end Nw
theorem Sit.strEq (hG : Cl p e below G) (S : Sit p l e R s m args below meth c Z EL own vm T h k n) (hx : p.tables.exec = Jvm.exec) (hws : ∀ d ∈ StrChars.Road.wordsEq, d.before a0 Z = true) (hcs : Cmp Z) (wi : (Jvm.Cond.instantiable ST 4).before a0 Z = true) {index : Nat}
    (wl : (Jvm.Cond.methodLink own index ⟨"java/lang/String", "equals", "(Ljava/lang/Object;)Z"⟩).before a0 Z = true) (wd : (Jvm.Cond.declares ⟨"java/lang/String", "equals", "(Ljava/lang/Object;)Z"⟩).before a0 Z = true) (wsl : (Jvm.Cond.selects ST ⟨"java/lang/String", "equals", "(Ljava/lang/Object;)Z"⟩ ⟨"java/lang/String", "equals", "(Ljava/lang/Object;)Z"⟩).before a0 Z = true) (wim : (Jvm.Cond.instanceMethod ⟨"java/lang/String", "equals", "(Ljava/lang/Object;)Z"⟩).before a0 Z = true)
    {cs ds : List Int32} {y u : Addr} (F : Str Z h b t cs) (F' : Str Z h y u ds) {g : JFrame} (hg : g.method = m) (hsize : g.locals.size = c.maxLocals) {rest : List Value} (hs : g.stack = .ref y :: .ref b :: rest) {W : Nat} (hW : 2 * g.monitorRoom + (rest.map fun v => v.category).sum ≤ W) (hd : decode c.code g.pc = .ok (.invokevirtual index, 3)) (hf : 2 ≤ R.frames) (hl : W + 28 ≤ R.locals) (hc : k ≤ R.cells) (hsl : n ≤ R.slots)
    (K : ∀ T', Sit p l e R s m args below meth c Z EL own vm T' h k n → G T' { g with pc := g.pc + 3, stack := .int (if cs = ds then 1 else 0) :: rest }) : G T g := by
  obtain ⟨z, hz1, hz2⟩ := hcs
  obtain ⟨kb, q1, q2, q3, q4, q5, q6⟩ := F
  obtain ⟨kb', r1, r2, r3, r4, r5, r6⟩ := F'
  have hcd := StrChars.Road.codOf (cs := cs) (n := cs.length) rfl (fun c hc => (q5 c hc).2)
  have hcd' := StrChars.Road.codOf (cs := ds) (n := ds.length) rfl (fun c hc => (r5 c hc).2)
  refine S.pureV hG hx (Q := fun v => (v = some (.int 1) ∧ cs = ds) ∨ (v = some (.int 0) ∧ ¬ cs = ds)) wl wd wsl wim (by decide) q1 (as := [.ref y]) (W := W) (StrChars.Road.eqW (W := W) S.warm hws wi q1 q2 q3 q4 hcd (up _ q5) q6 r1 r2 r3 r4 hcd' (up _ r5) r6 (hz1.ext S.old) hz2 hf hl) (ps := [.object "java/lang/Object"]) (r := some .boolean) (by decide +kernel) rfl hg hsize (rest := rest) hs hW hd hc hsl ?_
  rintro v T' S' (⟨rfl, hq⟩ | ⟨rfl, hq⟩)
  · have := K T' S'
    rw [if_pos hq] at this
    exact this
  · have := K T' S'
    rw [if_neg hq] at this
    exact this
theorem Sit.newStr (hG : Cl p e below G) (S : Sit p l e R s m args below meth c Z EL own vm T h k n) (hx : p.tables.exec = Jvm.exec) (hws : ∀ d ∈ StrChars.Road.words, d.before a0 Z = true) (hcs : Cmp Z) (wi : (Jvm.Cond.instantiable ST 4).before a0 Z = true) {index : Nat}
    (wl : (Jvm.Cond.methodLink own index ⟨"java/lang/String", "<init>", "([C)V"⟩).before a0 Z = true) (wim : (Jvm.Cond.instanceMethod ⟨"java/lang/String", "<init>", "([C)V"⟩).before a0 Z = true)
    {cs : List Int32} {kC : ClassId} {d v0 c0 : Value} {zn : Int32} (gx : Z.heap.size ≤ x) (sf : Safe Z EL vm h x) (E : Exa Z h x ST) (V : Fld Z h x ST "value" "[B" v0) (C : Fld Z h x ST "coder" "B" c0) (A : Arv Z h b kC .char zn (cs.map Value.int) d) (hN : zn = Int32.ofNat cs.length) (l0 : 0 < cs.length) (l2 : cs.length ≤ 4000) (hp : ∀ c ∈ cs, ¬ c < 0 ∧ ¬ (255 : Int32) < c)
    {nn : Nat} (hnn : cs.length ≤ nn) {g : JFrame} (hg : g.method = m) (hsize : g.locals.size = c.maxLocals) {rest : List Value} (hs : g.stack = .ref b :: .ref x :: rest) {W : Nat} (hW : 2 * g.monitorRoom + (rest.map fun v => v.category).sum ≤ W) (hd : decode c.code g.pc = .ok (.invokespecial index, 3)) (hf : 4 ≤ R.frames) (hl : W + 65 ≤ R.locals) (hc : k + 1 ≤ R.cells) (hsl : n + nn ≤ R.slots)
    (K : ∀ T' h' t, Sit p l e R s m args below meth c Z EL own vm T' h' (k + 1) (n + nn) → Stp Z EL vm h vm h' [x] → h.size ≤ t → Str Z h' x t cs → G T' { g with pc := g.pc + 3, stack := rest }) : G T g := by
  obtain ⟨z, hz1, hz2⟩ := hcs
  have ho := S.old
  obtain ⟨locs, X, eT, hZ, hown, ⟨j, hS, hj⟩, C0, N, O, hn⟩ := S
  obtain ⟨v, vm1, ⟨U, L', k', n'⟩, -, X', ⟨L, hQ, q1, q2, q3⟩, st⟩ := X.specialBack hx (y := (⟨"java/lang/String", "<init>", "([C)V"⟩ : MethodName)) rfl hown (mvT hZ wl) (mvT hZ wim) (mvT hZ (hws _ List.mem_cons_self)) (by decide) (StrChars.Road.backV (W := W) (bs := cs.map (fun c => c.toInt8.toInt32)) (n := cs.length) (n0 := Z.heap.size) hZ hws wi gx ho.1 E V C A (hz1.ext ho) hz2 rfl hN l0 l2 hp rfl hf hl) hg hsize (Steps.refl _) (a := x) (argsL := [.ref b]) (rest := rest) (lenOf (ps := [.array .char]) (r := none) (by decide +kernel) rfl) hs hW hd (fun _ _ => ⟨rfl, eT, hc, Nat.le_trans (Nat.add_le_add_left hnn _) hsl⟩)
  dsimp only [Pt.U, Pt.locs, Pt.cells, Pt.slots] at X' hQ q1 q2 q3 st
  subst q1 q2 q3
  obtain ⟨rfl, N', K', E', C', t, kb, t1, t2, t3, V', A'⟩ := hQ
  have J : Stp Z EL vm h vm U.heap [x] := Stp.of_keep K' (allS sf all0) C0.1
  subst hN
  refine hG.st (fun t q => st.trans q) (K U U.heap t ⟨_, { X' with same := X'.same.mono (Nat.le_refl _) (Nat.add_le_add_left hnn _) }, rfl, hZ, hown, ⟨j, hS, Nat.le_trans hj K'.1⟩, C0.trans J.2, N.app N', O, hn⟩ J t2 ⟨kb, E', V', C', A', hp, l2⟩)
end L2
end Jvm.Pilot.@@N@@.Own


namespace Jvm.Pilot.@@N@@
open Jvm Jvm.ClassFile Sem Op Lib Jvm.Free Jvm.Stand Jvm.LawKit Jvm.RoadKit Bundle Jvm.Pilot.@@N@@.Jvm.D
def own_Wld (Z : State) (a0 : Array Value) : Prop := (∀ d ∈ tables_1, d.before a0 Z = true) ∧ Own.Cmp Z ∧ Own.Sio Z ∧ EW Z a0 consts_1
set_option maxRecDepth 65536 in
theorem own_wbackV : ∀ d ∈ StrChars.Road.words, d ∈ tables_1 := by decide +kernel
set_option maxRecDepth 65536 in
theorem own_weqW : ∀ d ∈ StrChars.Road.wordsEq, d ∈ tables_1 := by decide +kernel
set_option maxRecDepth 65536 in
theorem own_wSA : ∀ d ∈ Bundle.stringAtoms, d ∈ tables_1 := by decide +kernel
def own_En (Z : State) (kl kn va sl tl sn tn : Addr) (kc : ClassId) : Prop := Sta Z Z.heap "com/example/earnline/earnline/book/LedgerExport" "JOURNAL" "Lcom/example/earnline/earnline/book/LedgerExport;" (.ref kl) ∧ Sta Z Z.heap "com/example/earnline/earnline/book/LedgerExport" "CSV" "Lcom/example/earnline/earnline/book/LedgerExport;" (.ref kn) ∧ Sta Z Z.heap "com/example/earnline/earnline/book/LedgerExport" "$VALUES" "[Lcom/example/earnline/earnline/book/LedgerExport;" (.ref va) ∧ Arv Z Z.heap va kc (.object "com/example/earnline/earnline/book/LedgerExport") (2 : Int32) [(.ref kl), (.ref kn)] .null ∧ Exa Z Z.heap va "[Lcom/example/earnline/earnline/book/LedgerExport;" ∧ Exa Z Z.heap kl "com/example/earnline/earnline/book/LedgerExport$1" ∧ Exa Z Z.heap kn "com/example/earnline/earnline/book/LedgerExport$2" ∧ Fld Z Z.heap kl "com/example/earnline/earnline/book/LedgerExport" "format" "Ljava/lang/String;" (.ref sl) ∧ Fld Z Z.heap kn "com/example/earnline/earnline/book/LedgerExport" "format" "Ljava/lang/String;" (.ref sn) ∧ Own.Str Z Z.heap sl tl ([106, 111, 117, 114, 110, 97, 108] : List Int32) ∧ Own.Str Z Z.heap sn tn ([99, 115, 118] : List Int32)
theorem own_pn425291 : plainFor (⟨"java/lang/String", "<init>", "([CIILjava/lang/Void;)V"⟩ : MethodName) = true := by first | exact plainFor_of_name (by first | (simp [plainName, overriddenIn]; done) | decide +kernel) | decide +kernel
theorem own_d0_0 : decode jdk_42_method_149_code 0 = .ok (.aload_n 0, 1) := by decide +kernel
theorem own_d0_1 : decode jdk_42_method_149_code 1 = .ok (.invokespecial 1, 3) := by decide +kernel
theorem own_d0_4 : decode jdk_42_method_149_code 4 = .ok (.iload_n 3, 1) := by decide +kernel
theorem own_d0_5 : decode jdk_42_method_149_code 5 = .ok (.ifCond .ne 22, 3) := by decide +kernel
theorem own_d0_8 : decode jdk_42_method_149_code 8 = .ok (.aload_n 0, 1) := by decide +kernel
theorem own_d0_9 : decode jdk_42_method_149_code 9 = .ok (.ldc 7, 2) := by decide +kernel
theorem own_d0_11 : decode jdk_42_method_149_code 11 = .ok (.getfield 9, 3) := by decide +kernel
theorem own_d0_14 : decode jdk_42_method_149_code 14 = .ok (.putfield 9, 3) := by decide +kernel
theorem own_d0_17 : decode jdk_42_method_149_code 17 = .ok (.aload_n 0, 1) := by decide +kernel
theorem own_d0_18 : decode jdk_42_method_149_code 18 = .ok (.ldc 7, 2) := by decide +kernel
theorem own_d0_20 : decode jdk_42_method_149_code 20 = .ok (.getfield 15, 3) := by decide +kernel
theorem own_d0_23 : decode jdk_42_method_149_code 23 = .ok (.putfield 15, 3) := by decide +kernel
theorem own_d0_26 : decode jdk_42_method_149_code 26 = .ok (.return_, 1) := by decide +kernel
theorem own_ef_own_emp4 (m : MethodId) (x : Addr) (b : Addr) : entryFrame m #[(.ref x), (.ref b), (.int 0), (.int 0), .null] 6 = mkF m 0 #[rv x, rv b, iv 0, iv 0, .val .null, .unset] [] := by first | (simp [entryFrame, mkF, argsToLocals, Value.category]; done) | rfl
set_option maxRecDepth 65536 in
set_option maxHeartbeats 40000000 in
theorem own_emp4 (l : Launch) (Z : State) (a0 : Array Value) (H : own_Wld Z a0) {cw : List Jvm.Cond} (x : Addr) (b : Addr) (h0 : Heap) (O0 : Ext Z.heap h0) (g_x : Z.heap.size ≤ x) (E_x : Exa Z h0 x "java/lang/String") (Fv : Fld Z h0 x "java/lang/String" "value" "[B" .null) (Fc : Fld Z h0 x "java/lang/String" "coder" "B" (.int 0)) :
    Own.Con l Z consts_1 (⟨"java/lang/String", "<init>", "([CIILjava/lang/Void;)V"⟩ : MethodName) jdk_42_method_149_code 6 none cw ({ frames := 1, cells := 4, slots := 8, locals := 12 } : Room) #[(.ref x), (.ref b), (.int 0), (.int 0), .null] h0 (fun v h => Keep h0 h [x] ∧ v = none ∧ ∃ t, Own.Str Z h x t []) := by
  have hw := H.1
  have hW := fun (i : Nat) (w : Jvm.Cond) (e : tables_1[i]? = some w) => hw w (List.mem_of_getElem? e)
  have hCm := H.2.1
  have hSi := H.2.2.1
  have hEL := H.2.2.2
  have hWs : ∀ d ∈ StrChars.Road.words, d.before a0 Z = true := fun d hd => hw d (own_wbackV d hd)
  have hWe : ∀ d ∈ StrChars.Road.wordsEq, d.before a0 Z = true := fun d hd => hw d (own_weqW d hd)
  have hSA : ∀ d ∈ Bundle.stringAtoms, d.before a0 Z = true := fun d hd => hw d (own_wSA d hd)
  refine Own.Con.of own_pn425291 hEL O0 ?_
  intro p e s m below meth c T0 G vm0 hx hby hml hret hnm hG hR S0
  have hz : ∀ L : Array Slot, L.size = 6 → L.size = c.maxLocals := fun L q => q.trans hml.symm
  rw [own_ef_own_emp4]
  show G T0 (mkF m 0 #[rv x, rv b, iv 0, iv 0, .val .null, .unset] [])
  have sf_x : Safe Z consts_1 vm0 h0 x := Own.Safe.blank S0.warm.alike E_x Fv (hW 6 _ rfl)
  refine hG.st (fun t q => XS.aloadN S0.here hx rfl (hb hby own_d0_0) rfl rfl q) ?_
  show G T0 (mkF m 1 #[rv x, rv b, iv 0, iv 0, .val .null, .unset] [(.ref x)])
  refine Own.Sit.initO hG S0 hx (hW 15 _ rfl) (hW 16 _ rfl) (hW 17 _ rfl) rfl (hz _ rfl) rfl (hb hby own_d0_1) (by decide) (W := 0) (Own.hw0 rfl rfl) (by decide) (fun T1 S1 => ?_)
  refine hG.st (fun t q => XS.iloadN S1.here hx rfl (hb hby own_d0_4) rfl (XS.ifNo S1.here hx rfl (hb hby own_d0_5) rfl ((if0 _ _).trans (teq (by decide : (0 : Int32) = (0 : Int32))).2) (XS.aloadN S1.here hx rfl (hb hby own_d0_8) rfl rfl q))) ?_
  show G T1 (mkF m 9 #[rv x, rv b, iv 0, iv 0, .val .null, .unset] [(.ref x)])
  refine Own.Sit.ldc hG S1 hx hEL (hW 79 _ rfl) hSA (by decide) (cs := ([] : List Int32)) ⟨by decide, by decide⟩ (by decide) (by decide) rfl (hb hby own_d0_9) (nn := 0) (by decide) (by decide) (by decide) (by decide) (fun vm2 T2 h2 x2 y2 S2 J2 St2 L2 => ?_)
  show G T2 (mkF m 11 #[rv x, rv b, iv 0, iv 0, .val .null, .unset] [(.ref x2), (.ref x)])
  obtain ⟨kb3, Ea3, Fa3, Fb3, Ab3, -, -⟩ := id St2
  refine Own.Sit.getF hG S2 hx (host := "") (Or.inl (hW 32 _ rfl)) Via.refl Fa3 rfl rfl (hb hby own_d0_11) (fun T4 S4 => ?_)
  have F5 := J2.fld Fv nin0
  have E6 := J2.exa E_x
  have Sf7 := J2.safe E_x.lt sf_x
  have F9 := J2.fld Fc nin0
  show G T4 (mkF m 14 #[rv x, rv b, iv 0, iv 0, .val .null, .unset] [(.ref y2), (.ref x)])
  refine Own.Sit.putF hG S4 hx (host := "") (Or.inl (hW 32 _ rfl)) Via.refl F5 E6 (Or.inr ⟨(hW 33 _ rfl), rfl, hnm⟩) (hW 6 _ rfl) (ty := (.array .byte)) (by decide) rfl rfl g_x Sf7 rfl rfl (hb hby own_d0_14) (fun T8 h8 S8 J8 W8 F8 => ?_)
  have F10 := Fld.other W8 F9 (Or.inr (slot_ne (Or.inr (hW 31 _ rfl)) (Or.inr (hW 33 _ rfl)) (by decide) (t := .byte) (by decide) (t' := (.array .byte)) (by decide)))
  refine hG.st (fun t q => XS.aloadN S8.here hx rfl (hb hby own_d0_17) rfl rfl q) ?_
  show G T8 (mkF m 18 #[rv x, rv b, iv 0, iv 0, .val .null, .unset] [(.ref x)])
  refine Own.Sit.ldc hG S8 hx hEL (hW 79 _ rfl) hSA (by decide) (cs := ([] : List Int32)) ⟨by decide, by decide⟩ (by decide) (by decide) rfl (hb hby own_d0_18) (nn := 0) (by decide) (by decide) (by decide) (by decide) (fun vm11 T11 h11 x11 y11 S11 J11 St11 L11 => ?_)
  show G T11 (mkF m 20 #[rv x, rv b, iv 0, iv 0, .val .null, .unset] [(.ref x11), (.ref x)])
  obtain ⟨kb12, Ea12, Fa12, Fb12, Ab12, -, -⟩ := id St11
  refine Own.Sit.getF hG S11 hx (host := "") (Or.inl (hW 30 _ rfl)) Via.refl Fb12 rfl rfl (hb hby own_d0_20) (fun T13 S13 => ?_)
  have F14 := J11.fld F10 nin0
  have J15 : Own.Stp Z consts_1 vm2 h2 vm11 h11 [x] := Own.Stp.trans J8 J11 (allS (List.mem_of_getElem? (i := 0) rfl) (all0)) all0
  have E16 := J15.exa E6
  have Sf17 := J15.safe (Nat.lt_of_lt_of_le E_x.lt J2.1.1) Sf7
  have F19 := J11.fld F8 nin0
  show G T13 (mkF m 23 #[rv x, rv b, iv 0, iv 0, .val .null, .unset] [(.int 0), (.ref x)])
  refine Own.Sit.putF hG S13 hx (host := "") (Or.inl (hW 30 _ rfl)) Via.refl F14 E16 (Or.inr ⟨(hW 31 _ rfl), rfl, hnm⟩) (hW 6 _ rfl) (ty := .byte) (by decide) rfl rfl g_x Sf17 rfl rfl (hb hby own_d0_23) (fun T18 h18 S18 J18 W18 F18 => ?_)
  have F20 := Fld.other W18 F19 (Or.inr (slot_ne (Or.inr (hW 33 _ rfl)) (Or.inr (hW 31 _ rfl)) (by decide) (t := (.array .byte)) (by decide) (t' := .byte) (by decide)))
  have E21 := J18.exa E16
  have J22 : Own.Stp Z consts_1 vm2 h2 vm11 h18 [x] := Own.Stp.trans J15 J18 (allS (List.mem_of_getElem? (i := 0) rfl) (all0)) (allS (Or.inl (List.mem_of_getElem? (i := 0) rfl)) all0)
  have V23 := J22.arv Ab3 (ninS (Ne.symm (Exa.neArv (J2.exa E_x) Ab3 (hW 6 _ rfl))) nin0)
  have J24 : Own.Stp Z consts_1 vm0 h0 vm2 h8 [x] := Own.Stp.trans J2 J8 (all0) (allS (Or.inl (List.mem_of_getElem? (i := 0) rfl)) all0)
  have J25 : Own.Stp Z consts_1 vm0 h0 vm11 h11 [x] := Own.Stp.trans J24 J11 (allS (List.mem_of_getElem? (i := 0) rfl) (all0)) all0
  have J26 : Own.Stp Z consts_1 vm0 h0 vm11 h18 [x] := Own.Stp.trans J25 J18 (allS (List.mem_of_getElem? (i := 0) rfl) (all0)) (allS (Or.inl (List.mem_of_getElem? (i := 0) rfl)) all0)
  show G T18 (mkF m 26 #[rv x, rv b, iv 0, iv 0, .val .null, .unset] [])
  exact Own.Sit.ret0 hR S18 hx hret (hb hby own_d0_26) (by decide) (by decide) ⟨J26.1, rfl, y2, kb3, E21, F20, F18, V23, by decide, by decide⟩
theorem own_pnc164e3 : plainFor (⟨"java/lang/String", "<init>", "([C)V"⟩ : MethodName) = true := by first | exact plainFor_of_name (by first | (simp [plainName, overriddenIn]; done) | decide +kernel) | decide +kernel
theorem own_pd2d3984 : parseMethodDescriptor "([CIILjava/lang/Void;)V" = some ⟨[(.array .char), .int, .int, (.object "java/lang/Void")], none⟩ := by decide +kernel
theorem own_d1_0 : decode jdk_42_method_3_code 0 = .ok (.aload_n 0, 1) := by decide +kernel
theorem own_d1_1 : decode jdk_42_method_3_code 1 = .ok (.aload_n 1, 1) := by decide +kernel
theorem own_d1_2 : decode jdk_42_method_3_code 2 = .ok (.iconst 0, 1) := by decide +kernel
theorem own_d1_3 : decode jdk_42_method_3_code 3 = .ok (.aload_n 1, 1) := by decide +kernel
theorem own_d1_4 : decode jdk_42_method_3_code 4 = .ok (.arraylength, 1) := by decide +kernel
theorem own_d1_5 : decode jdk_42_method_3_code 5 = .ok (.aconst_null, 1) := by decide +kernel
theorem own_d1_6 : decode jdk_42_method_3_code 6 = .ok (.invokespecial 27, 3) := by decide +kernel
theorem own_d1_9 : decode jdk_42_method_3_code 9 = .ok (.return_, 1) := by decide +kernel
theorem own_ef_own_emp1 (m : MethodId) (x : Addr) (b : Addr) : entryFrame m #[(.ref x), (.ref b)] 2 = mkF m 0 #[rv x, rv b] [] := by first | (simp [entryFrame, mkF, argsToLocals, Value.category]; done) | rfl
set_option maxRecDepth 65536 in
set_option maxHeartbeats 40000000 in
theorem own_emp1 (l : Launch) (Z : State) (a0 : Array Value) (H : own_Wld Z a0) {cw : List Jvm.Cond} (x : Addr) (b : Addr) (h0 : Heap) (O0 : Ext Z.heap h0) (g_x : Z.heap.size ≤ x) (E_x : Exa Z h0 x "java/lang/String") (Fv : Fld Z h0 x "java/lang/String" "value" "[B" .null) (Fc : Fld Z h0 x "java/lang/String" "coder" "B" (.int 0)) {kc : ClassId} {dv : Value} (A_b : Arv Z h0 b kc .char (0 : Int32) [] dv) :
    Own.Con l Z consts_1 (⟨"java/lang/String", "<init>", "([C)V"⟩ : MethodName) jdk_42_method_3_code 2 none cw ({ frames := 2, cells := 4, slots := 8, locals := 29 } : Room) #[(.ref x), (.ref b)] h0 (fun v h => Keep h0 h [x] ∧ v = none ∧ ∃ t, Own.Str Z h x t []) := by
  have hw := H.1
  have hW := fun (i : Nat) (w : Jvm.Cond) (e : tables_1[i]? = some w) => hw w (List.mem_of_getElem? e)
  have hCm := H.2.1
  have hSi := H.2.2.1
  have hEL := H.2.2.2
  have hWs : ∀ d ∈ StrChars.Road.words, d.before a0 Z = true := fun d hd => hw d (own_wbackV d hd)
  have hWe : ∀ d ∈ StrChars.Road.wordsEq, d.before a0 Z = true := fun d hd => hw d (own_weqW d hd)
  have hSA : ∀ d ∈ Bundle.stringAtoms, d.before a0 Z = true := fun d hd => hw d (own_wSA d hd)
  refine Own.Con.of own_pnc164e3 hEL O0 ?_
  intro p e s m below meth c T0 G vm0 hx hby hml hret hnm hG hR S0
  have hz : ∀ L : Array Slot, L.size = 2 → L.size = c.maxLocals := fun L q => q.trans hml.symm
  rw [own_ef_own_emp1]
  show G T0 (mkF m 0 #[rv x, rv b] [])
  have sf_x : Safe Z consts_1 vm0 h0 x := Own.Safe.blank S0.warm.alike E_x Fv (hW 6 _ rfl)
  refine hG.st (fun t q => XS.aloadN S0.here hx rfl (hb hby own_d1_0) rfl rfl (XS.aloadN S0.here hx rfl (hb hby own_d1_1) rfl rfl (XS.iconst S0.here hx rfl (hb hby own_d1_2) (XS.aloadN S0.here hx rfl (hb hby own_d1_3) rfl rfl q)))) ?_
  show G T0 (mkF m 4 #[rv x, rv b] [(.ref b), (.int 0), (.ref b), (.ref x)])
  refine Own.Sit.arraylength hG S0 hx A_b rfl rfl (hb hby own_d1_4) ?_
  show G T0 (mkF m 5 #[rv x, rv b] [(.int 0), (.int 0), (.ref b), (.ref x)])
  refine hG.st (fun t q => XS.aconstNull S0.here hx rfl (hb hby own_d1_5) q) ?_
  show G T0 (mkF m 6 #[rv x, rv b] [.null, (.int 0), (.int 0), (.ref b), (.ref x)])
  refine Own.Sit.callI hG S0 hx hEL rfl (as := [(.ref b), (.int 0), (.int 0), .null]) (hW 11 _ rfl) (hW 12 _ rfl) (hW 7 _ rfl) (hW 14 _ rfl) (by decide) (own_emp4 l Z a0 H x b h0 S0.old g_x E_x Fv Fc) own_pd2d3984 rfl rfl (hz _ rfl) (rest := []) rfl (W := 0) (Own.hw0 rfl rfl) (hb hby own_d1_6) (by decide) (by decide) (by decide) (by decide) (fun v27 vm27 T27 h27 S27 C27 q27 => ?_)
  obtain ⟨K27, rfl, y27, St27⟩ := q27
  have J27 : Own.Stp Z consts_1 vm0 h0 vm27 h27 [x] := ⟨K27, C27⟩
  show G T27 (mkF m 9 #[rv x, rv b] [])
  exact Own.Sit.ret0 hR S27 hx hret (hb hby own_d1_9) (by decide) (by decide) ⟨J27.1, rfl, _, St27⟩
theorem own_pn2ec7d8 : plainFor (⟨"java/lang/String", "equals", "(Ljava/lang/Object;)Z"⟩ : MethodName) = true := by first | exact plainFor_of_name (by first | (simp [plainName, overriddenIn]; done) | decide +kernel) | decide +kernel
theorem own_d2_0 : decode jdk_42_method_66_code 0 = .ok (.aload_n 0, 1) := by decide +kernel
theorem own_d2_1 : decode jdk_42_method_66_code 1 = .ok (.aload_n 1, 1) := by decide +kernel
theorem own_d2_2 : decode jdk_42_method_66_code 2 = .ok (.if_acmp .ne 5, 3) := by decide +kernel
theorem own_d2_7 : decode jdk_42_method_66_code 7 = .ok (.aload_n 1, 1) := by decide +kernel
theorem own_d2_8 : decode jdk_42_method_66_code 8 = .ok (.instanceof 10, 3) := by decide +kernel
theorem own_d2_11 : decode jdk_42_method_66_code 11 = .ok (.ifCond .eq 43, 3) := by decide +kernel
theorem own_d2_54 : decode jdk_42_method_66_code 54 = .ok (.iconst 0, 1) := by decide +kernel
theorem own_d2_55 : decode jdk_42_method_66_code 55 = .ok (.ireturn, 1) := by decide +kernel
theorem own_ef_own_eqnull (m : MethodId) (x : Addr) : entryFrame m #[(.ref x), .null] 3 = mkF m 0 #[rv x, .val .null, .unset] [] := by first | (simp [entryFrame, mkF, argsToLocals, Value.category]; done) | rfl
set_option maxRecDepth 65536 in
set_option maxHeartbeats 40000000 in
theorem own_eqnull (l : Launch) (Z : State) (a0 : Array Value) (H : own_Wld Z a0) {cw : List Jvm.Cond} (x : Addr) (h0 : Heap) (O0 : Ext Z.heap h0) :
    Own.Con l Z consts_1 (⟨"java/lang/String", "equals", "(Ljava/lang/Object;)Z"⟩ : MethodName) jdk_42_method_66_code 3 (some .boolean) cw ({ frames := 0, cells := 0, slots := 0, locals := 0 } : Room) #[(.ref x), .null] h0 (fun v h => Keep h0 h [] ∧ v = some (.int 0)) := by
  have hw := H.1
  have hW := fun (i : Nat) (w : Jvm.Cond) (e : tables_1[i]? = some w) => hw w (List.mem_of_getElem? e)
  have hCm := H.2.1
  have hSi := H.2.2.1
  have hEL := H.2.2.2
  have hWs : ∀ d ∈ StrChars.Road.words, d.before a0 Z = true := fun d hd => hw d (own_wbackV d hd)
  have hWe : ∀ d ∈ StrChars.Road.wordsEq, d.before a0 Z = true := fun d hd => hw d (own_weqW d hd)
  have hSA : ∀ d ∈ Bundle.stringAtoms, d.before a0 Z = true := fun d hd => hw d (own_wSA d hd)
  refine Own.Con.of own_pn2ec7d8 hEL O0 ?_
  intro p e s m below meth c T0 G vm0 hx hby hml hret hnm hG hR S0
  have hz : ∀ L : Array Slot, L.size = 3 → L.size = c.maxLocals := fun L q => q.trans hml.symm
  rw [own_ef_own_eqnull]
  show G T0 (mkF m 0 #[rv x, .val .null, .unset] [])
  refine hG.st (fun t q => XS.aloadN S0.here hx rfl (hb hby own_d2_0) rfl rfl (XS.aloadN S0.here hx rfl (hb hby own_d2_1) rfl rfl q)) ?_
  show G T0 (mkF m 2 #[rv x, .val .null, .unset] [.null, (.ref x)])
  refine Own.Sit.acmp hG S0 hx (g := (mkF m 2 #[rv x, .val .null, .unset] [.null, (.ref x)])) rfl rfl rfl (pc0 := 2) (pc' := 7) (same := false) rfl (hb hby own_d2_2) rfl (decide_eq_false nofun) (by decide) (by decide) ?_
  show G T0 (mkF m 7 #[rv x, .val .null, .unset] [])
  refine hG.st (fun t q => XS.aloadN S0.here hx rfl (hb hby own_d2_7) rfl rfl q) ?_
  show G T0 (mkF m 8 #[rv x, .val .null, .unset] [.null])
  refine Own.Sit.instNull hG S0 hx rfl rfl (hb hby own_d2_8) ?_
  show G T0 (mkF m 11 #[rv x, .val .null, .unset] [(.int 0)])
  refine hG.st (fun t q => XS.ifYes S0.here hx rfl (pc0 := 11) (pc' := 54) rfl (hb hby own_d2_11) rfl ((if0 _ _).trans (teq (by decide : (0 : Int32) = (0 : Int32))).1) (by decide) (by decide) (XS.iconst S0.here hx rfl (hb hby own_d2_54) q)) ?_
  show G T0 (mkF m 55 #[rv x, .val .null, .unset] [(.int 0)])
  exact Own.Sit.retN hR S0 hx (t := .boolean) hret (by simp) (hb hby own_d2_55) (by decide) (by decide) ⟨(Keep.refl _ _), rfl⟩
theorem own_pn617dd5 : plainFor (⟨"com/example/earnline/earnline/book/LedgerExport", "values", "()[Lcom/example/earnline/earnline/book/LedgerExport;"⟩ : MethodName) = true := by first | exact plainFor_of_name (by first | (simp [plainName, overriddenIn]; done) | decide +kernel) | decide +kernel
theorem own_d3_0 : decode prog_38_method_1_code 0 = .ok (.getstatic 10, 3) := by decide +kernel
theorem own_d3_3 : decode prog_38_method_1_code 3 = .ok (.invokevirtual 14, 3) := by decide +kernel
theorem own_d3_6 : decode prog_38_method_1_code 6 = .ok (.checkcast 15, 3) := by decide +kernel
theorem own_d3_9 : decode prog_38_method_1_code 9 = .ok (.areturn, 1) := by decide +kernel
theorem own_ef_own_values (m : MethodId)  : entryFrame m #[] 0 = mkF m 0 #[] [] := by first | (simp [entryFrame, mkF, argsToLocals, Value.category]; done) | rfl
set_option maxRecDepth 65536 in
set_option maxHeartbeats 40000000 in
theorem own_values (l : Launch) (Z : State) (a0 : Array Value) (H : own_Wld Z a0) {cw : List Jvm.Cond}  {kl kn va sl tl sn tn : Addr} {kc : ClassId} (N : own_En Z kl kn va sl tl sn tn kc) (h0 : Heap) (O0 : Ext Z.heap h0) :
    Own.Con l Z consts_1 (⟨"com/example/earnline/earnline/book/LedgerExport", "values", "()[Lcom/example/earnline/earnline/book/LedgerExport;"⟩ : MethodName) prog_38_method_1_code 0 (some (.array (.object "com/example/earnline/earnline/book/LedgerExport"))) cw ({ frames := 1, cells := 1, slots := 2, locals := 14 } : Room) #[] h0 (fun v h => Keep h0 h [] ∧ ∃ x, v = some (.ref x) ∧ h0.size ≤ x ∧ Arv Z h x kc (.object "com/example/earnline/earnline/book/LedgerExport") (2 : Int32) [(.ref kl), (.ref kn)] .null) := by
  have hw := H.1
  have hW := fun (i : Nat) (w : Jvm.Cond) (e : tables_1[i]? = some w) => hw w (List.mem_of_getElem? e)
  have hCm := H.2.1
  have hSi := H.2.2.1
  have hEL := H.2.2.2
  have hWs : ∀ d ∈ StrChars.Road.words, d.before a0 Z = true := fun d hd => hw d (own_wbackV d hd)
  have hWe : ∀ d ∈ StrChars.Road.wordsEq, d.before a0 Z = true := fun d hd => hw d (own_weqW d hd)
  have hSA : ∀ d ∈ Bundle.stringAtoms, d.before a0 Z = true := fun d hd => hw d (own_wSA d hd)
  refine Own.Con.of own_pn617dd5 hEL O0 ?_
  intro p e s m below meth c T0 G vm0 hx hby hml hret hnm hG hR S0
  have hz : ∀ L : Array Slot, L.size = 0 → L.size = c.maxLocals := fun L q => q.trans hml.symm
  rw [own_ef_own_values]
  show G T0 (mkF m 0 #[] [])
  obtain ⟨Sl, Sn, Sv, Av, Ev, Ekl, Ekn, Fkl, Fkn, Sts, Stn⟩ := id N
  refine Own.Sit.getS hG S0 hx (host := "") (Or.inl (hW 41 _ rfl)) Via.refl (Sv.ext S0.old) rfl (hb hby own_d3_0) (fun T28 S28 => ?_)
  have V29 := Av.ext S28.old
  have E30 := Ev.ext S28.old
  show G T28 (mkF m 3 #[] [(.ref va)])
  refine Own.Sit.cloneA hG S28 hx (hW 43 _ rfl) (hW 44 _ rfl) (hW 48 _ rfl) (hW 46 _ rfl) (hW 47 _ rfl) (hW 49 _ rfl) V29 E30 rfl (hz _ rfl) (rest := []) rfl (hb hby own_d3_3) (by decide) (W := 0) (cap := 2) (Own.hw0 rfl rfl) (by decide) (by decide) (by decide) (by decide) (fun T31 h31 x31 g_x31 S31 J31 V31 E31 => ?_)
  have lt_x31 := V31.lt
  have ga_x31 : Z.heap.size ≤ x31 := Nat.le_trans S28.le (Nat.le_of_eq g_x31.symm)
  show G T31 (mkF m 6 #[] [(.ref x31)])
  refine Own.Sit.castY hG S31 hx (hW 51 _ rfl) (Ins.self E31) rfl rfl (hb hby own_d3_6) (fun T32 S32 => ?_)
  show G T32 (mkF m 9 #[] [(.ref x31)])
  exact Own.Sit.retO hR S32 hx hret rfl (Or.inr (Or.inr (Or.inr (Or.inr ⟨rfl, rfl, rfl⟩)))) (hb hby own_d3_9) (by decide) (by decide) ⟨J31.1, x31, rfl, (Nat.le_of_eq g_x31.symm), V31⟩
theorem own_pn616e12 : plainFor (⟨"com/example/earnline/earnline/book/LedgerExport", "named", "(Ljava/lang/String;)Lcom/example/earnline/earnline/book/LedgerExport;"⟩ : MethodName) = true := by first | exact plainFor_of_name (by first | (simp [plainName, overriddenIn]; done) | decide +kernel) | decide +kernel
theorem own_pdb542a4 : parseMethodDescriptor "()[Lcom/example/earnline/earnline/book/LedgerExport;" = some ⟨[], some (.array (.object "com/example/earnline/earnline/book/LedgerExport"))⟩ := by decide +kernel
theorem own_d4_0 : decode prog_38_method_4_code 0 = .ok (.invokestatic 33, 3) := by decide +kernel
theorem own_d4_3 : decode prog_38_method_4_code 3 = .ok (.astore_n 1, 1) := by decide +kernel
theorem own_d4_4 : decode prog_38_method_4_code 4 = .ok (.aload_n 1, 1) := by decide +kernel
theorem own_d4_5 : decode prog_38_method_4_code 5 = .ok (.arraylength, 1) := by decide +kernel
theorem own_d4_6 : decode prog_38_method_4_code 6 = .ok (.istore_n 2, 1) := by decide +kernel
theorem own_d4_7 : decode prog_38_method_4_code 7 = .ok (.iconst 0, 1) := by decide +kernel
theorem own_d4_8 : decode prog_38_method_4_code 8 = .ok (.istore_n 3, 1) := by decide +kernel
theorem own_d4_9 : decode prog_38_method_4_code 9 = .ok (.iload_n 3, 1) := by decide +kernel
theorem own_d4_10 : decode prog_38_method_4_code 10 = .ok (.iload_n 2, 1) := by decide +kernel
theorem own_d4_11 : decode prog_38_method_4_code 11 = .ok (.if_icmp .ge 29, 3) := by decide +kernel
theorem own_d4_14 : decode prog_38_method_4_code 14 = .ok (.aload_n 1, 1) := by decide +kernel
theorem own_d4_15 : decode prog_38_method_4_code 15 = .ok (.iload_n 3, 1) := by decide +kernel
theorem own_d4_16 : decode prog_38_method_4_code 16 = .ok (.aaload, 1) := by decide +kernel
theorem own_d4_17 : decode prog_38_method_4_code 17 = .ok (.astore 4, 2) := by decide +kernel
theorem own_d4_19 : decode prog_38_method_4_code 19 = .ok (.aload 4, 2) := by decide +kernel
theorem own_d4_21 : decode prog_38_method_4_code 21 = .ok (.getfield 29, 3) := by decide +kernel
theorem own_d4_24 : decode prog_38_method_4_code 24 = .ok (.aload_n 0, 1) := by decide +kernel
theorem own_d4_25 : decode prog_38_method_4_code 25 = .ok (.invokevirtual 37, 3) := by decide +kernel
theorem own_d4_28 : decode prog_38_method_4_code 28 = .ok (.ifCond .eq 6, 3) := by decide +kernel
theorem own_d4_31 : decode prog_38_method_4_code 31 = .ok (.aload 4, 2) := by decide +kernel
theorem own_d4_33 : decode prog_38_method_4_code 33 = .ok (.areturn, 1) := by decide +kernel
theorem own_d4_34 : decode prog_38_method_4_code 34 = .ok (.iinc 3 1, 3) := by decide +kernel
theorem own_d4_37 : decode prog_38_method_4_code 37 = .ok (.goto (-28), 3) := by decide +kernel
theorem own_d4_40 : decode prog_38_method_4_code 40 = .ok (.aconst_null, 1) := by decide +kernel
theorem own_d4_41 : decode prog_38_method_4_code 41 = .ok (.areturn, 1) := by decide +kernel
theorem own_ef_own_named (m : MethodId) (x : Addr) : entryFrame m #[(.ref x)] 5 = mkF m 0 #[rv x, .unset, .unset, .unset, .unset] [] := by first | (simp [entryFrame, mkF, argsToLocals, Value.category]; done) | rfl
set_option maxRecDepth 65536 in
set_option maxHeartbeats 40000000 in
theorem own_named (l : Launch) (Z : State) (a0 : Array Value) (H : own_Wld Z a0) {cw : List Jvm.Cond} (x : Addr) {kl kn va sl tl sn tn : Addr} {kc : ClassId} (N : own_En Z kl kn va sl tl sn tn kc) (t : Addr) (cs : List Int32) (h0 : Heap) (O0 : Ext Z.heap h0) (St_x : Own.Str Z h0 x t cs) :
    Own.Con l Z consts_1 (⟨"com/example/earnline/earnline/book/LedgerExport", "named", "(Ljava/lang/String;)Lcom/example/earnline/earnline/book/LedgerExport;"⟩ : MethodName) prog_38_method_4_code 5 (some (.object "com/example/earnline/earnline/book/LedgerExport")) cw ({ frames := 2, cells := 1, slots := 2, locals := 28 } : Room) #[(.ref x)] h0 (fun v h => Keep h0 h [] ∧ ((([106, 111, 117, 114, 110, 97, 108] : List Int32) = cs ∧ v = some (.ref kl)) ∨ (([99, 115, 118] : List Int32) = cs ∧ v = some (.ref kn)) ∨ ((¬ ([106, 111, 117, 114, 110, 97, 108] : List Int32) = cs ∧ ¬ ([99, 115, 118] : List Int32) = cs) ∧ v = some .null))) := by
  have hw := H.1
  have hW := fun (i : Nat) (w : Jvm.Cond) (e : tables_1[i]? = some w) => hw w (List.mem_of_getElem? e)
  have hCm := H.2.1
  have hSi := H.2.2.1
  have hEL := H.2.2.2
  have hWs : ∀ d ∈ StrChars.Road.words, d.before a0 Z = true := fun d hd => hw d (own_wbackV d hd)
  have hWe : ∀ d ∈ StrChars.Road.wordsEq, d.before a0 Z = true := fun d hd => hw d (own_weqW d hd)
  have hSA : ∀ d ∈ Bundle.stringAtoms, d.before a0 Z = true := fun d hd => hw d (own_wSA d hd)
  refine Own.Con.of own_pn616e12 hEL O0 ?_
  intro p e s m below meth c T0 G vm0 hx hby hml hret hnm hG hR S0
  have hz : ∀ L : Array Slot, L.size = 5 → L.size = c.maxLocals := fun L q => q.trans hml.symm
  rw [own_ef_own_named]
  show G T0 (mkF m 0 #[rv x, .unset, .unset, .unset, .unset] [])
  obtain ⟨Sl, Sn, Sv, Av, Ev, Ekl, Ekn, Fkl, Fkn, Sts, Stn⟩ := id N
  refine Own.Sit.callS hG S0 hx hEL (as := []) (hW 38 _ rfl) (hW 39 _ rfl) (hW 36 _ rfl) (hW 40 _ rfl) (by decide) (own_values l Z a0 H N h0 S0.old) own_pdb542a4 rfl rfl (hz _ rfl) (rest := []) rfl (W := 0) (Own.hw0 rfl rfl) (hb hby own_d4_0) (by decide) (by decide) (by decide) (by decide) (fun v33 vm33 T33 h33 S33 C33 q33 => ?_)
  obtain ⟨K33, x33, rfl, u33, V33⟩ := q33
  have J33 : Own.Stp Z consts_1 vm0 h0 vm33 h33 [] := ⟨K33, C33⟩
  refine hG.st (fun t q => XS.astoreN S33.here hx rfl (hb hby own_d4_3) rfl rfl (l' := #[rv x, rv x33, .unset, .unset, .unset]) rfl (XS.aloadN S33.here hx rfl (hb hby own_d4_4) rfl rfl q)) ?_
  show G T33 (mkF m 5 #[rv x, rv x33, .unset, .unset, .unset] [(.ref x33)])
  refine Own.Sit.arraylength hG S33 hx V33 rfl rfl (hb hby own_d4_5) ?_
  show G T33 (mkF m 6 #[rv x, rv x33, .unset, .unset, .unset] [(.int 2)])
  refine hG.st (fun t q => XS.istoreN S33.here hx rfl (hb hby own_d4_6) rfl (l' := #[rv x, rv x33, iv 2, .unset, .unset]) rfl (XS.iconst S33.here hx rfl (hb hby own_d4_7) (XS.istoreN S33.here hx rfl (hb hby own_d4_8) rfl (l' := #[rv x, rv x33, iv 2, iv 0, .unset]) rfl (XS.iloadN S33.here hx rfl (hb hby own_d4_9) rfl (XS.iloadN S33.here hx rfl (hb hby own_d4_10) rfl (XS.icmpNo S33.here hx rfl (hb hby own_d4_11) rfl (tlt (by decide : (0 : Int32) < (2 : Int32))).2.1 q)))))) ?_
  show G T33 (mkF m 14 #[rv x, rv x33, iv 2, iv 0, .unset] [])
  refine hG.st (fun t q => XS.aloadN S33.here hx rfl (hb hby own_d4_14) rfl rfl (XS.iloadN S33.here hx rfl (hb hby own_d4_15) rfl q)) ?_
  show G T33 (mkF m 16 #[rv x, rv x33, iv 2, iv 0, .unset] [(.int 0), (.ref x33)])
  refine Own.Sit.aaload hG S33 hx V33 rfl ⟨by decide, by decide⟩ rfl rfl rfl (hb hby own_d4_16) ?_
  show G T33 (mkF m 17 #[rv x, rv x33, iv 2, iv 0, .unset] [(.ref kl)])
  refine hG.st (fun t q => XS.astore S33.here hx rfl (hb hby own_d4_17) rfl rfl (l' := #[rv x, rv x33, iv 2, iv 0, rv kl]) rfl (XS.aload S33.here hx rfl (hb hby own_d4_19) rfl rfl q)) ?_
  show G T33 (mkF m 21 #[rv x, rv x33, iv 2, iv 0, rv kl] [(.ref kl)])
  have F34 := Fkl.ext S33.old
  refine Own.Sit.getF hG S33 hx (host := "") (Or.inl (hW 53 _ rfl)) Via.refl F34 rfl rfl (hb hby own_d4_21) (fun T35 S35 => ?_)
  refine hG.st (fun t q => XS.aloadN S35.here hx rfl (hb hby own_d4_24) rfl rfl q) ?_
  show G T35 (mkF m 25 #[rv x, rv x33, iv 2, iv 0, rv kl] [(.ref x), (.ref sl)])
  have St36 := Sts.ext S35.old
  have St37 := J33.str St_x nin0 nin0
  refine Own.Sit.strEq hG S35 hx hWe hCm (hW 6 _ rfl) (hW 55 _ rfl) (hW 56 _ rfl) (hW 58 _ rfl) (hW 57 _ rfl) St36 St37 rfl (hz _ rfl) (rest := []) rfl (W := 0) (Own.hw0 rfl rfl) (hb hby own_d4_25) (by decide) (by decide) (by decide) (by decide) (fun T38 S38 => ?_)
  show G T38 (mkF m 28 #[rv x, rv x33, iv 2, iv 0, rv kl] [(.int (if ([106, 111, 117, 114, 110, 97, 108] : List Int32) = cs then 1 else 0))])
  by_cases he39 : ([106, 111, 117, 114, 110, 97, 108] : List Int32) = cs
  ·
    refine hG.st (fun t q => XS.ifNo S38.here hx rfl (hb hby own_d4_28) rfl ((if0 _ _).trans (feq (by rw [if_pos he39]; decide : ¬ ((if ([106, 111, 117, 114, 110, 97, 108] : List Int32) = cs then 1 else 0) = (0 : Int32)))).1) (XS.aload S38.here hx rfl (hb hby own_d4_31) rfl rfl q)) ?_
    show G T38 (mkF m 33 #[rv x, rv x33, iv 2, iv 0, rv kl] [(.ref kl)])
    exact Own.Sit.retO hR S38 hx hret rfl (Or.inr (Or.inr (Or.inr (Or.inr ⟨rfl, rfl, rfl⟩)))) (hb hby own_d4_33) (by decide) (by decide) ⟨J33.1, Or.inl ⟨he39, rfl⟩⟩
  ·
    refine hG.st (fun t q => XS.ifYes S38.here hx rfl (pc0 := 28) (pc' := 34) rfl (hb hby own_d4_28) rfl ((if0 _ _).trans (teq (by rw [if_neg he39] : (if ([106, 111, 117, 114, 110, 97, 108] : List Int32) = cs then 1 else 0) = (0 : Int32))).1) (by decide) (by decide) (XS.iinc S38.here hx rfl (hb hby own_d4_34) rfl (l' := #[rv x, rv x33, iv 2, iv 1, rv kl]) rfl (XS.goto S38.here hx rfl (pc0 := 37) (pc' := 9) rfl (hb hby own_d4_37) (by decide) (by decide) (XS.iloadN S38.here hx rfl (hb hby own_d4_9) rfl (XS.iloadN S38.here hx rfl (hb hby own_d4_10) rfl (XS.icmpNo S38.here hx rfl (hb hby own_d4_11) rfl (tlt (by decide : (1 : Int32) < (2 : Int32))).2.1 q)))))) ?_
    show G T38 (mkF m 14 #[rv x, rv x33, iv 2, iv 1, rv kl] [])
    refine hG.st (fun t q => XS.aloadN S38.here hx rfl (hb hby own_d4_14) rfl rfl (XS.iloadN S38.here hx rfl (hb hby own_d4_15) rfl q)) ?_
    show G T38 (mkF m 16 #[rv x, rv x33, iv 2, iv 1, rv kl] [(.int 1), (.ref x33)])
    refine Own.Sit.aaload hG S38 hx V33 rfl ⟨by decide, by decide⟩ rfl rfl rfl (hb hby own_d4_16) ?_
    show G T38 (mkF m 17 #[rv x, rv x33, iv 2, iv 1, rv kl] [(.ref kn)])
    refine hG.st (fun t q => XS.astore S38.here hx rfl (hb hby own_d4_17) rfl rfl (l' := #[rv x, rv x33, iv 2, iv 1, rv kn]) rfl (XS.aload S38.here hx rfl (hb hby own_d4_19) rfl rfl q)) ?_
    show G T38 (mkF m 21 #[rv x, rv x33, iv 2, iv 1, rv kn] [(.ref kn)])
    have F40 := Fkn.ext S38.old
    refine Own.Sit.getF hG S38 hx (host := "") (Or.inl (hW 53 _ rfl)) Via.refl F40 rfl rfl (hb hby own_d4_21) (fun T41 S41 => ?_)
    refine hG.st (fun t q => XS.aloadN S41.here hx rfl (hb hby own_d4_24) rfl rfl q) ?_
    show G T41 (mkF m 25 #[rv x, rv x33, iv 2, iv 1, rv kn] [(.ref x), (.ref sn)])
    have St42 := Stn.ext S41.old
    refine Own.Sit.strEq hG S41 hx hWe hCm (hW 6 _ rfl) (hW 55 _ rfl) (hW 56 _ rfl) (hW 58 _ rfl) (hW 57 _ rfl) St42 St37 rfl (hz _ rfl) (rest := []) rfl (W := 0) (Own.hw0 rfl rfl) (hb hby own_d4_25) (by decide) (by decide) (by decide) (by decide) (fun T43 S43 => ?_)
    show G T43 (mkF m 28 #[rv x, rv x33, iv 2, iv 1, rv kn] [(.int (if ([99, 115, 118] : List Int32) = cs then 1 else 0))])
    by_cases he44 : ([99, 115, 118] : List Int32) = cs
    ·
      refine hG.st (fun t q => XS.ifNo S43.here hx rfl (hb hby own_d4_28) rfl ((if0 _ _).trans (feq (by rw [if_pos he44]; decide : ¬ ((if ([99, 115, 118] : List Int32) = cs then 1 else 0) = (0 : Int32)))).1) (XS.aload S43.here hx rfl (hb hby own_d4_31) rfl rfl q)) ?_
      show G T43 (mkF m 33 #[rv x, rv x33, iv 2, iv 1, rv kn] [(.ref kn)])
      exact Own.Sit.retO hR S43 hx hret rfl (Or.inr (Or.inr (Or.inr (Or.inr ⟨rfl, rfl, rfl⟩)))) (hb hby own_d4_33) (by decide) (by decide) ⟨J33.1, Or.inr (Or.inl ⟨he44, rfl⟩)⟩
    ·
      refine hG.st (fun t q => XS.ifYes S43.here hx rfl (pc0 := 28) (pc' := 34) rfl (hb hby own_d4_28) rfl ((if0 _ _).trans (teq (by rw [if_neg he44] : (if ([99, 115, 118] : List Int32) = cs then 1 else 0) = (0 : Int32))).1) (by decide) (by decide) (XS.iinc S43.here hx rfl (hb hby own_d4_34) rfl (l' := #[rv x, rv x33, iv 2, iv 2, rv kn]) rfl (XS.goto S43.here hx rfl (pc0 := 37) (pc' := 9) rfl (hb hby own_d4_37) (by decide) (by decide) (XS.iloadN S43.here hx rfl (hb hby own_d4_9) rfl (XS.iloadN S43.here hx rfl (hb hby own_d4_10) rfl (XS.icmpYes S43.here hx rfl (pc0 := 11) (pc' := 40) rfl (hb hby own_d4_11) rfl (flt (by decide : ¬ ((2 : Int32) < (2 : Int32)))).2.1 (by decide) (by decide) q)))))) ?_
      show G T43 (mkF m 40 #[rv x, rv x33, iv 2, iv 2, rv kn] [])
      refine hG.st (fun t q => XS.aconstNull S43.here hx rfl (hb hby own_d4_40) q) ?_
      show G T43 (mkF m 41 #[rv x, rv x33, iv 2, iv 2, rv kn] [.null])
      exact Own.Sit.retO hR S43 hx hret rfl (Or.inr (Or.inr (Or.inr (Or.inr ⟨rfl, rfl, rfl⟩)))) (hb hby own_d4_41) (by decide) (by decide) ⟨J33.1, Or.inr (Or.inr ⟨⟨he39, he44⟩, rfl⟩)⟩
theorem own_pd67f3b2 : parseMethodDescriptor "(Ljava/lang/Object;)Z" = some ⟨[(.object "java/lang/Object")], some .boolean⟩ := by decide +kernel
theorem own_ef_own_namedN (m : MethodId)  : entryFrame m #[.null] 5 = mkF m 0 #[.val .null, .unset, .unset, .unset, .unset] [] := by first | (simp [entryFrame, mkF, argsToLocals, Value.category]; done) | rfl
set_option maxRecDepth 65536 in
set_option maxHeartbeats 40000000 in
theorem own_namedN (l : Launch) (Z : State) (a0 : Array Value) (H : own_Wld Z a0) {cw : List Jvm.Cond}  {kl kn va sl tl sn tn : Addr} {kc : ClassId} (N : own_En Z kl kn va sl tl sn tn kc) (h0 : Heap) (O0 : Ext Z.heap h0) :
    Own.Con l Z consts_1 (⟨"com/example/earnline/earnline/book/LedgerExport", "named", "(Ljava/lang/String;)Lcom/example/earnline/earnline/book/LedgerExport;"⟩ : MethodName) prog_38_method_4_code 5 (some (.object "com/example/earnline/earnline/book/LedgerExport")) cw ({ frames := 2, cells := 1, slots := 2, locals := 25 } : Room) #[.null] h0 (fun v h => Keep h0 h [] ∧ v = some .null) := by
  have hw := H.1
  have hW := fun (i : Nat) (w : Jvm.Cond) (e : tables_1[i]? = some w) => hw w (List.mem_of_getElem? e)
  have hCm := H.2.1
  have hSi := H.2.2.1
  have hEL := H.2.2.2
  have hWs : ∀ d ∈ StrChars.Road.words, d.before a0 Z = true := fun d hd => hw d (own_wbackV d hd)
  have hWe : ∀ d ∈ StrChars.Road.wordsEq, d.before a0 Z = true := fun d hd => hw d (own_weqW d hd)
  have hSA : ∀ d ∈ Bundle.stringAtoms, d.before a0 Z = true := fun d hd => hw d (own_wSA d hd)
  refine Own.Con.of own_pn616e12 hEL O0 ?_
  intro p e s m below meth c T0 G vm0 hx hby hml hret hnm hG hR S0
  have hz : ∀ L : Array Slot, L.size = 5 → L.size = c.maxLocals := fun L q => q.trans hml.symm
  rw [own_ef_own_namedN]
  show G T0 (mkF m 0 #[.val .null, .unset, .unset, .unset, .unset] [])
  obtain ⟨Sl, Sn, Sv, Av, Ev, Ekl, Ekn, Fkl, Fkn, Sts, Stn⟩ := id N
  refine Own.Sit.callS hG S0 hx hEL (as := []) (hW 38 _ rfl) (hW 39 _ rfl) (hW 36 _ rfl) (hW 40 _ rfl) (by decide) (own_values l Z a0 H N h0 S0.old) own_pdb542a4 rfl rfl (hz _ rfl) (rest := []) rfl (W := 0) (Own.hw0 rfl rfl) (hb hby own_d4_0) (by decide) (by decide) (by decide) (by decide) (fun v45 vm45 T45 h45 S45 C45 q45 => ?_)
  obtain ⟨K45, x45, rfl, u45, V45⟩ := q45
  have J45 : Own.Stp Z consts_1 vm0 h0 vm45 h45 [] := ⟨K45, C45⟩
  refine hG.st (fun t q => XS.astoreN S45.here hx rfl (hb hby own_d4_3) rfl rfl (l' := #[.val .null, rv x45, .unset, .unset, .unset]) rfl (XS.aloadN S45.here hx rfl (hb hby own_d4_4) rfl rfl q)) ?_
  show G T45 (mkF m 5 #[.val .null, rv x45, .unset, .unset, .unset] [(.ref x45)])
  refine Own.Sit.arraylength hG S45 hx V45 rfl rfl (hb hby own_d4_5) ?_
  show G T45 (mkF m 6 #[.val .null, rv x45, .unset, .unset, .unset] [(.int 2)])
  refine hG.st (fun t q => XS.istoreN S45.here hx rfl (hb hby own_d4_6) rfl (l' := #[.val .null, rv x45, iv 2, .unset, .unset]) rfl (XS.iconst S45.here hx rfl (hb hby own_d4_7) (XS.istoreN S45.here hx rfl (hb hby own_d4_8) rfl (l' := #[.val .null, rv x45, iv 2, iv 0, .unset]) rfl (XS.iloadN S45.here hx rfl (hb hby own_d4_9) rfl (XS.iloadN S45.here hx rfl (hb hby own_d4_10) rfl (XS.icmpNo S45.here hx rfl (hb hby own_d4_11) rfl (tlt (by decide : (0 : Int32) < (2 : Int32))).2.1 q)))))) ?_
  show G T45 (mkF m 14 #[.val .null, rv x45, iv 2, iv 0, .unset] [])
  refine hG.st (fun t q => XS.aloadN S45.here hx rfl (hb hby own_d4_14) rfl rfl (XS.iloadN S45.here hx rfl (hb hby own_d4_15) rfl q)) ?_
  show G T45 (mkF m 16 #[.val .null, rv x45, iv 2, iv 0, .unset] [(.int 0), (.ref x45)])
  refine Own.Sit.aaload hG S45 hx V45 rfl ⟨by decide, by decide⟩ rfl rfl rfl (hb hby own_d4_16) ?_
  show G T45 (mkF m 17 #[.val .null, rv x45, iv 2, iv 0, .unset] [(.ref kl)])
  refine hG.st (fun t q => XS.astore S45.here hx rfl (hb hby own_d4_17) rfl rfl (l' := #[.val .null, rv x45, iv 2, iv 0, rv kl]) rfl (XS.aload S45.here hx rfl (hb hby own_d4_19) rfl rfl q)) ?_
  show G T45 (mkF m 21 #[.val .null, rv x45, iv 2, iv 0, rv kl] [(.ref kl)])
  have F46 := Fkl.ext S45.old
  refine Own.Sit.getF hG S45 hx (host := "") (Or.inl (hW 53 _ rfl)) Via.refl F46 rfl rfl (hb hby own_d4_21) (fun T47 S47 => ?_)
  refine hG.st (fun t q => XS.aloadN S47.here hx rfl (hb hby own_d4_24) rfl rfl q) ?_
  show G T47 (mkF m 25 #[.val .null, rv x45, iv 2, iv 0, rv kl] [.null, (.ref sl)])
  have St48 := Sts.ext S47.old
  refine Own.Sit.callV hG S47 hx hEL (as := [.null]) (hW 55 _ rfl) (hW 56 _ rfl) (hW 58 _ rfl) (hW 57 _ rfl) (hW 7 _ rfl) (hW 59 _ rfl) (by decide) St48.exa (own_eqnull l Z a0 H sl h45 S47.old) own_pd67f3b2 rfl rfl (hz _ rfl) (rest := []) rfl (W := 0) (Own.hw0 rfl rfl) (hb hby own_d4_25) (by decide) (by decide) (by decide) (by decide) (fun v49 vm49 T49 h49 S49 C49 q49 => ?_)
  obtain ⟨K49, rfl⟩ := q49
  have J49 : Own.Stp Z consts_1 vm45 h45 vm49 h49 [] := ⟨K49, C49⟩
  refine hG.st (fun t q => XS.ifYes S49.here hx rfl (pc0 := 28) (pc' := 34) rfl (hb hby own_d4_28) rfl ((if0 _ _).trans (teq (by decide : (0 : Int32) = (0 : Int32))).1) (by decide) (by decide) (XS.iinc S49.here hx rfl (hb hby own_d4_34) rfl (l' := #[.val .null, rv x45, iv 2, iv 1, rv kl]) rfl (XS.goto S49.here hx rfl (pc0 := 37) (pc' := 9) rfl (hb hby own_d4_37) (by decide) (by decide) (XS.iloadN S49.here hx rfl (hb hby own_d4_9) rfl (XS.iloadN S49.here hx rfl (hb hby own_d4_10) rfl (XS.icmpNo S49.here hx rfl (hb hby own_d4_11) rfl (tlt (by decide : (1 : Int32) < (2 : Int32))).2.1 q)))))) ?_
  show G T49 (mkF m 14 #[.val .null, rv x45, iv 2, iv 1, rv kl] [])
  refine hG.st (fun t q => XS.aloadN S49.here hx rfl (hb hby own_d4_14) rfl rfl (XS.iloadN S49.here hx rfl (hb hby own_d4_15) rfl q)) ?_
  show G T49 (mkF m 16 #[.val .null, rv x45, iv 2, iv 1, rv kl] [(.int 1), (.ref x45)])
  have V50 := J49.arv V45 nin0
  refine Own.Sit.aaload hG S49 hx V50 rfl ⟨by decide, by decide⟩ rfl rfl rfl (hb hby own_d4_16) ?_
  show G T49 (mkF m 17 #[.val .null, rv x45, iv 2, iv 1, rv kl] [(.ref kn)])
  refine hG.st (fun t q => XS.astore S49.here hx rfl (hb hby own_d4_17) rfl rfl (l' := #[.val .null, rv x45, iv 2, iv 1, rv kn]) rfl (XS.aload S49.here hx rfl (hb hby own_d4_19) rfl rfl q)) ?_
  show G T49 (mkF m 21 #[.val .null, rv x45, iv 2, iv 1, rv kn] [(.ref kn)])
  have F51 := Fkn.ext S49.old
  refine Own.Sit.getF hG S49 hx (host := "") (Or.inl (hW 53 _ rfl)) Via.refl F51 rfl rfl (hb hby own_d4_21) (fun T52 S52 => ?_)
  refine hG.st (fun t q => XS.aloadN S52.here hx rfl (hb hby own_d4_24) rfl rfl q) ?_
  show G T52 (mkF m 25 #[.val .null, rv x45, iv 2, iv 1, rv kn] [.null, (.ref sn)])
  have St53 := Stn.ext S52.old
  refine Own.Sit.callV hG S52 hx hEL (as := [.null]) (hW 55 _ rfl) (hW 56 _ rfl) (hW 58 _ rfl) (hW 57 _ rfl) (hW 7 _ rfl) (hW 59 _ rfl) (by decide) St53.exa (own_eqnull l Z a0 H sn h49 S52.old) own_pd67f3b2 rfl rfl (hz _ rfl) (rest := []) rfl (W := 0) (Own.hw0 rfl rfl) (hb hby own_d4_25) (by decide) (by decide) (by decide) (by decide) (fun v54 vm54 T54 h54 S54 C54 q54 => ?_)
  obtain ⟨K54, rfl⟩ := q54
  have J54 : Own.Stp Z consts_1 vm49 h49 vm54 h54 [] := ⟨K54, C54⟩
  refine hG.st (fun t q => XS.ifYes S54.here hx rfl (pc0 := 28) (pc' := 34) rfl (hb hby own_d4_28) rfl ((if0 _ _).trans (teq (by decide : (0 : Int32) = (0 : Int32))).1) (by decide) (by decide) (XS.iinc S54.here hx rfl (hb hby own_d4_34) rfl (l' := #[.val .null, rv x45, iv 2, iv 2, rv kn]) rfl (XS.goto S54.here hx rfl (pc0 := 37) (pc' := 9) rfl (hb hby own_d4_37) (by decide) (by decide) (XS.iloadN S54.here hx rfl (hb hby own_d4_9) rfl (XS.iloadN S54.here hx rfl (hb hby own_d4_10) rfl (XS.icmpYes S54.here hx rfl (pc0 := 11) (pc' := 40) rfl (hb hby own_d4_11) rfl (flt (by decide : ¬ ((2 : Int32) < (2 : Int32)))).2.1 (by decide) (by decide) q)))))) ?_
  show G T54 (mkF m 40 #[.val .null, rv x45, iv 2, iv 2, rv kn] [])
  refine hG.st (fun t q => XS.aconstNull S54.here hx rfl (hb hby own_d4_40) q) ?_
  show G T54 (mkF m 41 #[.val .null, rv x45, iv 2, iv 2, rv kn] [.null])
  have J55 : Own.Stp Z consts_1 vm0 h0 vm49 h49 [] := Own.Stp.trans J45 J49 (all0) all0
  have J56 : Own.Stp Z consts_1 vm0 h0 vm54 h54 [] := Own.Stp.trans J55 J54 (all0) all0
  exact Own.Sit.retO hR S54 hx hret rfl (Or.inr (Or.inr (Or.inr (Or.inr ⟨rfl, rfl, rfl⟩)))) (hb hby own_d4_41) (by decide) (by decide) ⟨J56.1, rfl⟩
theorem own_pna4e119 : plainFor (⟨"com/example/earnline/earnline/book/LedgerExportNamedPinLaw", "expected", "(Ljava/lang/String;)Lcom/example/earnline/earnline/book/LedgerExport;"⟩ : MethodName) = true := by first | exact plainFor_of_name (by first | (simp [plainName, overriddenIn]; done) | decide +kernel) | decide +kernel
theorem own_d5_0 : decode method_3_code 0 = .ok (.aload_n 0, 1) := by decide +kernel
theorem own_d5_1 : decode method_3_code 1 = .ok (.ifnonnull 5, 3) := by decide +kernel
theorem own_d5_6 : decode method_3_code 6 = .ok (.aload_n 0, 1) := by decide +kernel
theorem own_d5_7 : decode method_3_code 7 = .ok (.ldc 23, 2) := by decide +kernel
theorem own_d5_9 : decode method_3_code 9 = .ok (.invokevirtual 25, 3) := by decide +kernel
theorem own_d5_12 : decode method_3_code 12 = .ok (.ifCond .eq 7, 3) := by decide +kernel
theorem own_d5_15 : decode method_3_code 15 = .ok (.getstatic 31, 3) := by decide +kernel
theorem own_d5_18 : decode method_3_code 18 = .ok (.areturn, 1) := by decide +kernel
theorem own_d5_19 : decode method_3_code 19 = .ok (.aload_n 0, 1) := by decide +kernel
theorem own_d5_20 : decode method_3_code 20 = .ok (.ldc 35, 2) := by decide +kernel
theorem own_d5_22 : decode method_3_code 22 = .ok (.invokevirtual 25, 3) := by decide +kernel
theorem own_d5_25 : decode method_3_code 25 = .ok (.ifCond .eq 7, 3) := by decide +kernel
theorem own_d5_28 : decode method_3_code 28 = .ok (.getstatic 37, 3) := by decide +kernel
theorem own_d5_31 : decode method_3_code 31 = .ok (.areturn, 1) := by decide +kernel
theorem own_d5_32 : decode method_3_code 32 = .ok (.aconst_null, 1) := by decide +kernel
theorem own_d5_33 : decode method_3_code 33 = .ok (.areturn, 1) := by decide +kernel
theorem own_ef_own_exp (m : MethodId) (x : Addr) : entryFrame m #[(.ref x)] 1 = mkF m 0 #[rv x] [] := by first | (simp [entryFrame, mkF, argsToLocals, Value.category]; done) | rfl
set_option maxRecDepth 65536 in
set_option maxHeartbeats 40000000 in
theorem own_exp (l : Launch) (Z : State) (a0 : Array Value) (H : own_Wld Z a0) {cw : List Jvm.Cond} (x : Addr) {kl kn va sl tl sn tn : Addr} {kc : ClassId} (N : own_En Z kl kn va sl tl sn tn kc) (t : Addr) (cs : List Int32) (h0 : Heap) (O0 : Ext Z.heap h0) (St_x : Own.Str Z h0 x t cs) :
    Own.Con l Z consts_1 (⟨"com/example/earnline/earnline/book/LedgerExportNamedPinLaw", "expected", "(Ljava/lang/String;)Lcom/example/earnline/earnline/book/LedgerExport;"⟩ : MethodName) method_3_code 1 (some (.object "com/example/earnline/earnline/book/LedgerExport")) cw ({ frames := 2, cells := 4, slots := 48, locals := 28 } : Room) #[(.ref x)] h0 (fun v h => Keep h0 h [] ∧ ((([106, 111, 117, 114, 110, 97, 108] : List Int32) = cs ∧ v = some (.ref kl)) ∨ (([99, 115, 118] : List Int32) = cs ∧ v = some (.ref kn)) ∨ ((¬ ([106, 111, 117, 114, 110, 97, 108] : List Int32) = cs ∧ ¬ ([99, 115, 118] : List Int32) = cs) ∧ v = some .null))) := by
  have hw := H.1
  have hW := fun (i : Nat) (w : Jvm.Cond) (e : tables_1[i]? = some w) => hw w (List.mem_of_getElem? e)
  have hCm := H.2.1
  have hSi := H.2.2.1
  have hEL := H.2.2.2
  have hWs : ∀ d ∈ StrChars.Road.words, d.before a0 Z = true := fun d hd => hw d (own_wbackV d hd)
  have hWe : ∀ d ∈ StrChars.Road.wordsEq, d.before a0 Z = true := fun d hd => hw d (own_weqW d hd)
  have hSA : ∀ d ∈ Bundle.stringAtoms, d.before a0 Z = true := fun d hd => hw d (own_wSA d hd)
  refine Own.Con.of own_pna4e119 hEL O0 ?_
  intro p e s m below meth c T0 G vm0 hx hby hml hret hnm hG hR S0
  have hz : ∀ L : Array Slot, L.size = 1 → L.size = c.maxLocals := fun L q => q.trans hml.symm
  rw [own_ef_own_exp]
  show G T0 (mkF m 0 #[rv x] [])
  obtain ⟨Sl, Sn, Sv, Av, Ev, Ekl, Ekn, Fkl, Fkn, Sts, Stn⟩ := id N
  refine hG.st (fun t q => XS.aloadN S0.here hx rfl (hb hby own_d5_0) rfl rfl (XS.ifnonnullYes S0.here hx rfl (pc0 := 1) (pc' := 6) rfl (hb hby own_d5_1) rfl (by decide) (by decide) (XS.aloadN S0.here hx rfl (hb hby own_d5_6) rfl rfl q))) ?_
  show G T0 (mkF m 7 #[rv x] [(.ref x)])
  refine Own.Sit.ldc hG S0 hx hEL (hW 68 _ rfl) hSA (by decide) (cs := ([106, 111, 117, 114, 110, 97, 108] : List Int32)) ⟨by decide, by decide⟩ (by decide) (by decide) rfl (hb hby own_d5_7) (nn := 28) (by decide) (by decide) (by decide) (by decide) (fun vm57 T57 h57 x57 y57 S57 J57 St57 L57 => ?_)
  have St58 := J57.str St_x nin0 nin0
  show G T57 (mkF m 9 #[rv x] [(.ref x57), (.ref x)])
  refine Own.Sit.strEq hG S57 hx hWe hCm (hW 6 _ rfl) (hW 71 _ rfl) (hW 56 _ rfl) (hW 58 _ rfl) (hW 57 _ rfl) St58 St57 rfl (hz _ rfl) (rest := []) rfl (W := 0) (Own.hw0 rfl rfl) (hb hby own_d5_9) (by decide) (by decide) (by decide) (by decide) (fun T59 S59 => ?_)
  show G T59 (mkF m 12 #[rv x] [(.int (if cs = ([106, 111, 117, 114, 110, 97, 108] : List Int32) then 1 else 0))])
  by_cases he60 : cs = ([106, 111, 117, 114, 110, 97, 108] : List Int32)
  ·
    refine hG.st (fun t q => XS.ifNo S59.here hx rfl (hb hby own_d5_12) rfl ((if0 _ _).trans (feq (by rw [if_pos he60]; decide : ¬ ((if cs = ([106, 111, 117, 114, 110, 97, 108] : List Int32) then 1 else 0) = (0 : Int32)))).1) q) ?_
    show G T59 (mkF m 15 #[rv x] [])
    refine Own.Sit.getS hG S59 hx (host := "") (Or.inl (hW 72 _ rfl)) Via.refl (Sl.ext S59.old) rfl (hb hby own_d5_15) (fun T61 S61 => ?_)
    show G T61 (mkF m 18 #[rv x] [(.ref kl)])
    exact Own.Sit.retO hR S61 hx hret rfl (Or.inr (Or.inr (Or.inr (Or.inr ⟨rfl, rfl, rfl⟩)))) (hb hby own_d5_18) (by decide) (by decide) ⟨J57.1, Or.inl ⟨he60.symm, rfl⟩⟩
  ·
    refine hG.st (fun t q => XS.ifYes S59.here hx rfl (pc0 := 12) (pc' := 19) rfl (hb hby own_d5_12) rfl ((if0 _ _).trans (teq (by rw [if_neg he60] : (if cs = ([106, 111, 117, 114, 110, 97, 108] : List Int32) then 1 else 0) = (0 : Int32))).1) (by decide) (by decide) (XS.aloadN S59.here hx rfl (hb hby own_d5_19) rfl rfl q)) ?_
    show G T59 (mkF m 20 #[rv x] [(.ref x)])
    refine Own.Sit.ldc hG S59 hx hEL (hW 75 _ rfl) hSA (by decide) (cs := ([99, 115, 118] : List Int32)) ⟨by decide, by decide⟩ (by decide) (by decide) rfl (hb hby own_d5_20) (nn := 12) (by decide) (by decide) (by decide) (by decide) (fun vm62 T62 h62 x62 y62 S62 J62 St62 L62 => ?_)
    have St63 := J62.str St58 nin0 nin0
    show G T62 (mkF m 22 #[rv x] [(.ref x62), (.ref x)])
    refine Own.Sit.strEq hG S62 hx hWe hCm (hW 6 _ rfl) (hW 71 _ rfl) (hW 56 _ rfl) (hW 58 _ rfl) (hW 57 _ rfl) St63 St62 rfl (hz _ rfl) (rest := []) rfl (W := 0) (Own.hw0 rfl rfl) (hb hby own_d5_22) (by decide) (by decide) (by decide) (by decide) (fun T64 S64 => ?_)
    show G T64 (mkF m 25 #[rv x] [(.int (if cs = ([99, 115, 118] : List Int32) then 1 else 0))])
    by_cases he65 : cs = ([99, 115, 118] : List Int32)
    ·
      refine hG.st (fun t q => XS.ifNo S64.here hx rfl (hb hby own_d5_25) rfl ((if0 _ _).trans (feq (by rw [if_pos he65]; decide : ¬ ((if cs = ([99, 115, 118] : List Int32) then 1 else 0) = (0 : Int32)))).1) q) ?_
      show G T64 (mkF m 28 #[rv x] [])
      refine Own.Sit.getS hG S64 hx (host := "") (Or.inl (hW 77 _ rfl)) Via.refl (Sn.ext S64.old) rfl (hb hby own_d5_28) (fun T66 S66 => ?_)
      have J67 : Own.Stp Z consts_1 vm0 h0 vm62 h62 [] := Own.Stp.trans J57 J62 (all0) all0
      show G T66 (mkF m 31 #[rv x] [(.ref kn)])
      exact Own.Sit.retO hR S66 hx hret rfl (Or.inr (Or.inr (Or.inr (Or.inr ⟨rfl, rfl, rfl⟩)))) (hb hby own_d5_31) (by decide) (by decide) ⟨J67.1, Or.inr (Or.inl ⟨he65.symm, rfl⟩)⟩
    ·
      refine hG.st (fun t q => XS.ifYes S64.here hx rfl (pc0 := 25) (pc' := 32) rfl (hb hby own_d5_25) rfl ((if0 _ _).trans (teq (by rw [if_neg he65] : (if cs = ([99, 115, 118] : List Int32) then 1 else 0) = (0 : Int32))).1) (by decide) (by decide) (XS.aconstNull S64.here hx rfl (hb hby own_d5_32) q)) ?_
      show G T64 (mkF m 33 #[rv x] [.null])
      have J68 : Own.Stp Z consts_1 vm0 h0 vm62 h62 [] := Own.Stp.trans J57 J62 (all0) all0
      exact Own.Sit.retO hR S64 hx hret rfl (Or.inr (Or.inr (Or.inr (Or.inr ⟨rfl, rfl, rfl⟩)))) (hb hby own_d5_33) (by decide) (by decide) ⟨J68.1, Or.inr (Or.inr ⟨⟨(fun q => he60 q.symm), (fun q => he65 q.symm)⟩, rfl⟩)⟩
theorem own_d5_4 : decode method_3_code 4 = .ok (.aconst_null, 1) := by decide +kernel
theorem own_d5_5 : decode method_3_code 5 = .ok (.areturn, 1) := by decide +kernel
theorem own_ef_own_expN (m : MethodId)  : entryFrame m #[.null] 1 = mkF m 0 #[.val .null] [] := by first | (simp [entryFrame, mkF, argsToLocals, Value.category]; done) | rfl
set_option maxRecDepth 65536 in
set_option maxHeartbeats 40000000 in
theorem own_expN (l : Launch) (Z : State) (a0 : Array Value) (H : own_Wld Z a0) {cw : List Jvm.Cond}  {kl kn va sl tl sn tn : Addr} {kc : ClassId} (N : own_En Z kl kn va sl tl sn tn kc) (h0 : Heap) (O0 : Ext Z.heap h0) :
    Own.Con l Z consts_1 (⟨"com/example/earnline/earnline/book/LedgerExportNamedPinLaw", "expected", "(Ljava/lang/String;)Lcom/example/earnline/earnline/book/LedgerExport;"⟩ : MethodName) method_3_code 1 (some (.object "com/example/earnline/earnline/book/LedgerExport")) cw ({ frames := 0, cells := 0, slots := 0, locals := 0 } : Room) #[.null] h0 (fun v h => Keep h0 h [] ∧ v = some .null) := by
  have hw := H.1
  have hW := fun (i : Nat) (w : Jvm.Cond) (e : tables_1[i]? = some w) => hw w (List.mem_of_getElem? e)
  have hCm := H.2.1
  have hSi := H.2.2.1
  have hEL := H.2.2.2
  have hWs : ∀ d ∈ StrChars.Road.words, d.before a0 Z = true := fun d hd => hw d (own_wbackV d hd)
  have hWe : ∀ d ∈ StrChars.Road.wordsEq, d.before a0 Z = true := fun d hd => hw d (own_weqW d hd)
  have hSA : ∀ d ∈ Bundle.stringAtoms, d.before a0 Z = true := fun d hd => hw d (own_wSA d hd)
  refine Own.Con.of own_pna4e119 hEL O0 ?_
  intro p e s m below meth c T0 G vm0 hx hby hml hret hnm hG hR S0
  have hz : ∀ L : Array Slot, L.size = 1 → L.size = c.maxLocals := fun L q => q.trans hml.symm
  rw [own_ef_own_expN]
  show G T0 (mkF m 0 #[.val .null] [])
  obtain ⟨Sl, Sn, Sv, Av, Ev, Ekl, Ekn, Fkl, Fkn, Sts, Stn⟩ := id N
  refine hG.st (fun t q => XS.aloadN S0.here hx rfl (hb hby own_d5_0) rfl rfl (XS.ifnonnullNo S0.here hx rfl (hb hby own_d5_1) rfl (XS.aconstNull S0.here hx rfl (hb hby own_d5_4) q))) ?_
  show G T0 (mkF m 5 #[.val .null] [.null])
  exact Own.Sit.retO hR S0 hx hret rfl (Or.inr (Or.inr (Or.inr (Or.inr ⟨rfl, rfl, rfl⟩)))) (hb hby own_d5_5) (by decide) (by decide) ⟨(Keep.refl _ _), rfl⟩
theorem own_get {cs : List Int32} {dv : Value} {i : Nat} (h : i < cs.length) : (cs.map Value.int).getD i dv = .int (cs.getD i 0) := by simp [h]
theorem own_rg {cs : List Int32} (hr : ∀ c ∈ cs, ¬ c < 0 ∧ ¬ (255 : Int32) < c) (i : Nat) : ¬ cs.getD i 0 < 0 ∧ ¬ (255 : Int32) < cs.getD i 0 := by
  by_cases h : i < cs.length
  · have : cs.getD i 0 = cs[i] := by simp [h]
    rw [this]; exact hr _ (List.getElem_mem h)
  · have : cs.getD i 0 = 0 := by simp [Nat.not_lt.mp h]
    rw [this]; decide
theorem own_nar {y : Int32} (h : ¬ y < 0 ∧ ¬ (255 : Int32) < y) : nar .char y = y := by
  have q := c_i2c y
  have e0 : (0 : Int32).toInt = 0 := rfl
  have e255 : (255 : Int32).toInt = 255 := rfl
  simp only [Int32.lt_iff_toInt_lt, e0, e255] at h
  have e : (nar .char y).toInt = y.toInt := by
    show y.toUInt32.toUInt16.toUInt32.toInt32.toInt = _
    omega
  exact Int32.toInt_inj.mp e
theorem own_pn424caa : plainFor (⟨"com/example/earnline/earnline/book/LedgerExportNamedPinLaw", "cut", "([CI)Ljava/lang/String;"⟩ : MethodName) = true := by first | exact plainFor_of_name (by first | (simp [plainName, overriddenIn]; done) | decide +kernel) | decide +kernel
theorem own_pd827e25 : parseMethodDescriptor "([C)V" = some ⟨[(.array .char)], none⟩ := by decide +kernel
theorem own_d6_0 : decode method_4_code 0 = .ok (.iload_n 1, 1) := by decide +kernel
theorem own_d6_1 : decode method_4_code 1 = .ok (.tableswitch 307 0 7 #[47, 58, 75, 98, 127, 162, 203, 251], 47) := by decide +kernel
theorem own_d6_48 : decode method_4_code 48 = .ok (.new 26, 3) := by decide +kernel
theorem own_d6_51 : decode method_4_code 51 = .ok (.dup, 1) := by decide +kernel
theorem own_d6_52 : decode method_4_code 52 = .ok (.iconst 0, 1) := by decide +kernel
theorem own_d6_53 : decode method_4_code 53 = .ok (.newarray .char, 2) := by decide +kernel
theorem own_d6_55 : decode method_4_code 55 = .ok (.invokespecial 40, 3) := by decide +kernel
theorem own_d6_58 : decode method_4_code 58 = .ok (.areturn, 1) := by decide +kernel
theorem own_d6_59 : decode method_4_code 59 = .ok (.new 26, 3) := by decide +kernel
theorem own_d6_62 : decode method_4_code 62 = .ok (.dup, 1) := by decide +kernel
theorem own_d6_63 : decode method_4_code 63 = .ok (.iconst 1, 1) := by decide +kernel
theorem own_d6_64 : decode method_4_code 64 = .ok (.newarray .char, 2) := by decide +kernel
theorem own_d6_66 : decode method_4_code 66 = .ok (.dup, 1) := by decide +kernel
theorem own_d6_67 : decode method_4_code 67 = .ok (.iconst 0, 1) := by decide +kernel
theorem own_d6_68 : decode method_4_code 68 = .ok (.aload_n 0, 1) := by decide +kernel
theorem own_d6_69 : decode method_4_code 69 = .ok (.iconst 0, 1) := by decide +kernel
theorem own_d6_70 : decode method_4_code 70 = .ok (.caload, 1) := by decide +kernel
theorem own_d6_71 : decode method_4_code 71 = .ok (.castore, 1) := by decide +kernel
theorem own_d6_72 : decode method_4_code 72 = .ok (.invokespecial 40, 3) := by decide +kernel
theorem own_d6_75 : decode method_4_code 75 = .ok (.areturn, 1) := by decide +kernel
theorem own_d6_76 : decode method_4_code 76 = .ok (.new 26, 3) := by decide +kernel
theorem own_d6_79 : decode method_4_code 79 = .ok (.dup, 1) := by decide +kernel
theorem own_d6_80 : decode method_4_code 80 = .ok (.iconst 2, 1) := by decide +kernel
theorem own_d6_81 : decode method_4_code 81 = .ok (.newarray .char, 2) := by decide +kernel
theorem own_d6_83 : decode method_4_code 83 = .ok (.dup, 1) := by decide +kernel
theorem own_d6_84 : decode method_4_code 84 = .ok (.iconst 0, 1) := by decide +kernel
theorem own_d6_85 : decode method_4_code 85 = .ok (.aload_n 0, 1) := by decide +kernel
theorem own_d6_86 : decode method_4_code 86 = .ok (.iconst 0, 1) := by decide +kernel
theorem own_d6_87 : decode method_4_code 87 = .ok (.caload, 1) := by decide +kernel
theorem own_d6_88 : decode method_4_code 88 = .ok (.castore, 1) := by decide +kernel
theorem own_d6_89 : decode method_4_code 89 = .ok (.dup, 1) := by decide +kernel
theorem own_d6_90 : decode method_4_code 90 = .ok (.iconst 1, 1) := by decide +kernel
theorem own_d6_91 : decode method_4_code 91 = .ok (.aload_n 0, 1) := by decide +kernel
theorem own_d6_92 : decode method_4_code 92 = .ok (.iconst 1, 1) := by decide +kernel
theorem own_d6_93 : decode method_4_code 93 = .ok (.caload, 1) := by decide +kernel
theorem own_d6_94 : decode method_4_code 94 = .ok (.castore, 1) := by decide +kernel
theorem own_d6_95 : decode method_4_code 95 = .ok (.invokespecial 40, 3) := by decide +kernel
theorem own_d6_98 : decode method_4_code 98 = .ok (.areturn, 1) := by decide +kernel
theorem own_d6_99 : decode method_4_code 99 = .ok (.new 26, 3) := by decide +kernel
theorem own_d6_102 : decode method_4_code 102 = .ok (.dup, 1) := by decide +kernel
theorem own_d6_103 : decode method_4_code 103 = .ok (.iconst 3, 1) := by decide +kernel
theorem own_d6_104 : decode method_4_code 104 = .ok (.newarray .char, 2) := by decide +kernel
theorem own_d6_106 : decode method_4_code 106 = .ok (.dup, 1) := by decide +kernel
theorem own_d6_107 : decode method_4_code 107 = .ok (.iconst 0, 1) := by decide +kernel
theorem own_d6_108 : decode method_4_code 108 = .ok (.aload_n 0, 1) := by decide +kernel
theorem own_d6_109 : decode method_4_code 109 = .ok (.iconst 0, 1) := by decide +kernel
theorem own_d6_110 : decode method_4_code 110 = .ok (.caload, 1) := by decide +kernel
theorem own_d6_111 : decode method_4_code 111 = .ok (.castore, 1) := by decide +kernel
theorem own_d6_112 : decode method_4_code 112 = .ok (.dup, 1) := by decide +kernel
theorem own_d6_113 : decode method_4_code 113 = .ok (.iconst 1, 1) := by decide +kernel
theorem own_d6_114 : decode method_4_code 114 = .ok (.aload_n 0, 1) := by decide +kernel
theorem own_d6_115 : decode method_4_code 115 = .ok (.iconst 1, 1) := by decide +kernel
theorem own_d6_116 : decode method_4_code 116 = .ok (.caload, 1) := by decide +kernel
theorem own_d6_117 : decode method_4_code 117 = .ok (.castore, 1) := by decide +kernel
theorem own_d6_118 : decode method_4_code 118 = .ok (.dup, 1) := by decide +kernel
theorem own_d6_119 : decode method_4_code 119 = .ok (.iconst 2, 1) := by decide +kernel
theorem own_d6_120 : decode method_4_code 120 = .ok (.aload_n 0, 1) := by decide +kernel
theorem own_d6_121 : decode method_4_code 121 = .ok (.iconst 2, 1) := by decide +kernel
theorem own_d6_122 : decode method_4_code 122 = .ok (.caload, 1) := by decide +kernel
theorem own_d6_123 : decode method_4_code 123 = .ok (.castore, 1) := by decide +kernel
theorem own_d6_124 : decode method_4_code 124 = .ok (.invokespecial 40, 3) := by decide +kernel
theorem own_d6_127 : decode method_4_code 127 = .ok (.areturn, 1) := by decide +kernel
theorem own_d6_128 : decode method_4_code 128 = .ok (.new 26, 3) := by decide +kernel
theorem own_d6_131 : decode method_4_code 131 = .ok (.dup, 1) := by decide +kernel
theorem own_d6_132 : decode method_4_code 132 = .ok (.iconst 4, 1) := by decide +kernel
theorem own_d6_133 : decode method_4_code 133 = .ok (.newarray .char, 2) := by decide +kernel
theorem own_d6_135 : decode method_4_code 135 = .ok (.dup, 1) := by decide +kernel
theorem own_d6_136 : decode method_4_code 136 = .ok (.iconst 0, 1) := by decide +kernel
theorem own_d6_137 : decode method_4_code 137 = .ok (.aload_n 0, 1) := by decide +kernel
theorem own_d6_138 : decode method_4_code 138 = .ok (.iconst 0, 1) := by decide +kernel
theorem own_d6_139 : decode method_4_code 139 = .ok (.caload, 1) := by decide +kernel
theorem own_d6_140 : decode method_4_code 140 = .ok (.castore, 1) := by decide +kernel
theorem own_d6_141 : decode method_4_code 141 = .ok (.dup, 1) := by decide +kernel
theorem own_d6_142 : decode method_4_code 142 = .ok (.iconst 1, 1) := by decide +kernel
theorem own_d6_143 : decode method_4_code 143 = .ok (.aload_n 0, 1) := by decide +kernel
theorem own_d6_144 : decode method_4_code 144 = .ok (.iconst 1, 1) := by decide +kernel
theorem own_d6_145 : decode method_4_code 145 = .ok (.caload, 1) := by decide +kernel
theorem own_d6_146 : decode method_4_code 146 = .ok (.castore, 1) := by decide +kernel
theorem own_d6_147 : decode method_4_code 147 = .ok (.dup, 1) := by decide +kernel
theorem own_d6_148 : decode method_4_code 148 = .ok (.iconst 2, 1) := by decide +kernel
theorem own_d6_149 : decode method_4_code 149 = .ok (.aload_n 0, 1) := by decide +kernel
theorem own_d6_150 : decode method_4_code 150 = .ok (.iconst 2, 1) := by decide +kernel
theorem own_d6_151 : decode method_4_code 151 = .ok (.caload, 1) := by decide +kernel
theorem own_d6_152 : decode method_4_code 152 = .ok (.castore, 1) := by decide +kernel
theorem own_d6_153 : decode method_4_code 153 = .ok (.dup, 1) := by decide +kernel
theorem own_d6_154 : decode method_4_code 154 = .ok (.iconst 3, 1) := by decide +kernel
theorem own_d6_155 : decode method_4_code 155 = .ok (.aload_n 0, 1) := by decide +kernel
theorem own_d6_156 : decode method_4_code 156 = .ok (.iconst 3, 1) := by decide +kernel
theorem own_d6_157 : decode method_4_code 157 = .ok (.caload, 1) := by decide +kernel
theorem own_d6_158 : decode method_4_code 158 = .ok (.castore, 1) := by decide +kernel
theorem own_d6_159 : decode method_4_code 159 = .ok (.invokespecial 40, 3) := by decide +kernel
theorem own_d6_162 : decode method_4_code 162 = .ok (.areturn, 1) := by decide +kernel
theorem own_d6_163 : decode method_4_code 163 = .ok (.new 26, 3) := by decide +kernel
theorem own_d6_166 : decode method_4_code 166 = .ok (.dup, 1) := by decide +kernel
theorem own_d6_167 : decode method_4_code 167 = .ok (.iconst 5, 1) := by decide +kernel
theorem own_d6_168 : decode method_4_code 168 = .ok (.newarray .char, 2) := by decide +kernel
theorem own_d6_170 : decode method_4_code 170 = .ok (.dup, 1) := by decide +kernel
theorem own_d6_171 : decode method_4_code 171 = .ok (.iconst 0, 1) := by decide +kernel
theorem own_d6_172 : decode method_4_code 172 = .ok (.aload_n 0, 1) := by decide +kernel
theorem own_d6_173 : decode method_4_code 173 = .ok (.iconst 0, 1) := by decide +kernel
theorem own_d6_174 : decode method_4_code 174 = .ok (.caload, 1) := by decide +kernel
theorem own_d6_175 : decode method_4_code 175 = .ok (.castore, 1) := by decide +kernel
theorem own_d6_176 : decode method_4_code 176 = .ok (.dup, 1) := by decide +kernel
theorem own_d6_177 : decode method_4_code 177 = .ok (.iconst 1, 1) := by decide +kernel
theorem own_d6_178 : decode method_4_code 178 = .ok (.aload_n 0, 1) := by decide +kernel
theorem own_d6_179 : decode method_4_code 179 = .ok (.iconst 1, 1) := by decide +kernel
theorem own_d6_180 : decode method_4_code 180 = .ok (.caload, 1) := by decide +kernel
theorem own_d6_181 : decode method_4_code 181 = .ok (.castore, 1) := by decide +kernel
theorem own_d6_182 : decode method_4_code 182 = .ok (.dup, 1) := by decide +kernel
theorem own_d6_183 : decode method_4_code 183 = .ok (.iconst 2, 1) := by decide +kernel
theorem own_d6_184 : decode method_4_code 184 = .ok (.aload_n 0, 1) := by decide +kernel
theorem own_d6_185 : decode method_4_code 185 = .ok (.iconst 2, 1) := by decide +kernel
theorem own_d6_186 : decode method_4_code 186 = .ok (.caload, 1) := by decide +kernel
theorem own_d6_187 : decode method_4_code 187 = .ok (.castore, 1) := by decide +kernel
theorem own_d6_188 : decode method_4_code 188 = .ok (.dup, 1) := by decide +kernel
theorem own_d6_189 : decode method_4_code 189 = .ok (.iconst 3, 1) := by decide +kernel
theorem own_d6_190 : decode method_4_code 190 = .ok (.aload_n 0, 1) := by decide +kernel
theorem own_d6_191 : decode method_4_code 191 = .ok (.iconst 3, 1) := by decide +kernel
theorem own_d6_192 : decode method_4_code 192 = .ok (.caload, 1) := by decide +kernel
theorem own_d6_193 : decode method_4_code 193 = .ok (.castore, 1) := by decide +kernel
theorem own_d6_194 : decode method_4_code 194 = .ok (.dup, 1) := by decide +kernel
theorem own_d6_195 : decode method_4_code 195 = .ok (.iconst 4, 1) := by decide +kernel
theorem own_d6_196 : decode method_4_code 196 = .ok (.aload_n 0, 1) := by decide +kernel
theorem own_d6_197 : decode method_4_code 197 = .ok (.iconst 4, 1) := by decide +kernel
theorem own_d6_198 : decode method_4_code 198 = .ok (.caload, 1) := by decide +kernel
theorem own_d6_199 : decode method_4_code 199 = .ok (.castore, 1) := by decide +kernel
theorem own_d6_200 : decode method_4_code 200 = .ok (.invokespecial 40, 3) := by decide +kernel
theorem own_d6_203 : decode method_4_code 203 = .ok (.areturn, 1) := by decide +kernel
theorem own_d6_204 : decode method_4_code 204 = .ok (.new 26, 3) := by decide +kernel
theorem own_d6_207 : decode method_4_code 207 = .ok (.dup, 1) := by decide +kernel
theorem own_d6_208 : decode method_4_code 208 = .ok (.bipush 6, 2) := by decide +kernel
theorem own_d6_210 : decode method_4_code 210 = .ok (.newarray .char, 2) := by decide +kernel
theorem own_d6_212 : decode method_4_code 212 = .ok (.dup, 1) := by decide +kernel
theorem own_d6_213 : decode method_4_code 213 = .ok (.iconst 0, 1) := by decide +kernel
theorem own_d6_214 : decode method_4_code 214 = .ok (.aload_n 0, 1) := by decide +kernel
theorem own_d6_215 : decode method_4_code 215 = .ok (.iconst 0, 1) := by decide +kernel
theorem own_d6_216 : decode method_4_code 216 = .ok (.caload, 1) := by decide +kernel
theorem own_d6_217 : decode method_4_code 217 = .ok (.castore, 1) := by decide +kernel
theorem own_d6_218 : decode method_4_code 218 = .ok (.dup, 1) := by decide +kernel
theorem own_d6_219 : decode method_4_code 219 = .ok (.iconst 1, 1) := by decide +kernel
theorem own_d6_220 : decode method_4_code 220 = .ok (.aload_n 0, 1) := by decide +kernel
theorem own_d6_221 : decode method_4_code 221 = .ok (.iconst 1, 1) := by decide +kernel
theorem own_d6_222 : decode method_4_code 222 = .ok (.caload, 1) := by decide +kernel
theorem own_d6_223 : decode method_4_code 223 = .ok (.castore, 1) := by decide +kernel
theorem own_d6_224 : decode method_4_code 224 = .ok (.dup, 1) := by decide +kernel
theorem own_d6_225 : decode method_4_code 225 = .ok (.iconst 2, 1) := by decide +kernel
theorem own_d6_226 : decode method_4_code 226 = .ok (.aload_n 0, 1) := by decide +kernel
theorem own_d6_227 : decode method_4_code 227 = .ok (.iconst 2, 1) := by decide +kernel
theorem own_d6_228 : decode method_4_code 228 = .ok (.caload, 1) := by decide +kernel
theorem own_d6_229 : decode method_4_code 229 = .ok (.castore, 1) := by decide +kernel
theorem own_d6_230 : decode method_4_code 230 = .ok (.dup, 1) := by decide +kernel
theorem own_d6_231 : decode method_4_code 231 = .ok (.iconst 3, 1) := by decide +kernel
theorem own_d6_232 : decode method_4_code 232 = .ok (.aload_n 0, 1) := by decide +kernel
theorem own_d6_233 : decode method_4_code 233 = .ok (.iconst 3, 1) := by decide +kernel
theorem own_d6_234 : decode method_4_code 234 = .ok (.caload, 1) := by decide +kernel
theorem own_d6_235 : decode method_4_code 235 = .ok (.castore, 1) := by decide +kernel
theorem own_d6_236 : decode method_4_code 236 = .ok (.dup, 1) := by decide +kernel
theorem own_d6_237 : decode method_4_code 237 = .ok (.iconst 4, 1) := by decide +kernel
theorem own_d6_238 : decode method_4_code 238 = .ok (.aload_n 0, 1) := by decide +kernel
theorem own_d6_239 : decode method_4_code 239 = .ok (.iconst 4, 1) := by decide +kernel
theorem own_d6_240 : decode method_4_code 240 = .ok (.caload, 1) := by decide +kernel
theorem own_d6_241 : decode method_4_code 241 = .ok (.castore, 1) := by decide +kernel
theorem own_d6_242 : decode method_4_code 242 = .ok (.dup, 1) := by decide +kernel
theorem own_d6_243 : decode method_4_code 243 = .ok (.iconst 5, 1) := by decide +kernel
theorem own_d6_244 : decode method_4_code 244 = .ok (.aload_n 0, 1) := by decide +kernel
theorem own_d6_245 : decode method_4_code 245 = .ok (.iconst 5, 1) := by decide +kernel
theorem own_d6_246 : decode method_4_code 246 = .ok (.caload, 1) := by decide +kernel
theorem own_d6_247 : decode method_4_code 247 = .ok (.castore, 1) := by decide +kernel
theorem own_d6_248 : decode method_4_code 248 = .ok (.invokespecial 40, 3) := by decide +kernel
theorem own_d6_251 : decode method_4_code 251 = .ok (.areturn, 1) := by decide +kernel
theorem own_d6_252 : decode method_4_code 252 = .ok (.new 26, 3) := by decide +kernel
theorem own_d6_255 : decode method_4_code 255 = .ok (.dup, 1) := by decide +kernel
theorem own_d6_256 : decode method_4_code 256 = .ok (.bipush 7, 2) := by decide +kernel
theorem own_d6_258 : decode method_4_code 258 = .ok (.newarray .char, 2) := by decide +kernel
theorem own_d6_260 : decode method_4_code 260 = .ok (.dup, 1) := by decide +kernel
theorem own_d6_261 : decode method_4_code 261 = .ok (.iconst 0, 1) := by decide +kernel
theorem own_d6_262 : decode method_4_code 262 = .ok (.aload_n 0, 1) := by decide +kernel
theorem own_d6_263 : decode method_4_code 263 = .ok (.iconst 0, 1) := by decide +kernel
theorem own_d6_264 : decode method_4_code 264 = .ok (.caload, 1) := by decide +kernel
theorem own_d6_265 : decode method_4_code 265 = .ok (.castore, 1) := by decide +kernel
theorem own_d6_266 : decode method_4_code 266 = .ok (.dup, 1) := by decide +kernel
theorem own_d6_267 : decode method_4_code 267 = .ok (.iconst 1, 1) := by decide +kernel
theorem own_d6_268 : decode method_4_code 268 = .ok (.aload_n 0, 1) := by decide +kernel
theorem own_d6_269 : decode method_4_code 269 = .ok (.iconst 1, 1) := by decide +kernel
theorem own_d6_270 : decode method_4_code 270 = .ok (.caload, 1) := by decide +kernel
theorem own_d6_271 : decode method_4_code 271 = .ok (.castore, 1) := by decide +kernel
theorem own_d6_272 : decode method_4_code 272 = .ok (.dup, 1) := by decide +kernel
theorem own_d6_273 : decode method_4_code 273 = .ok (.iconst 2, 1) := by decide +kernel
theorem own_d6_274 : decode method_4_code 274 = .ok (.aload_n 0, 1) := by decide +kernel
theorem own_d6_275 : decode method_4_code 275 = .ok (.iconst 2, 1) := by decide +kernel
theorem own_d6_276 : decode method_4_code 276 = .ok (.caload, 1) := by decide +kernel
theorem own_d6_277 : decode method_4_code 277 = .ok (.castore, 1) := by decide +kernel
theorem own_d6_278 : decode method_4_code 278 = .ok (.dup, 1) := by decide +kernel
theorem own_d6_279 : decode method_4_code 279 = .ok (.iconst 3, 1) := by decide +kernel
theorem own_d6_280 : decode method_4_code 280 = .ok (.aload_n 0, 1) := by decide +kernel
theorem own_d6_281 : decode method_4_code 281 = .ok (.iconst 3, 1) := by decide +kernel
theorem own_d6_282 : decode method_4_code 282 = .ok (.caload, 1) := by decide +kernel
theorem own_d6_283 : decode method_4_code 283 = .ok (.castore, 1) := by decide +kernel
theorem own_d6_284 : decode method_4_code 284 = .ok (.dup, 1) := by decide +kernel
theorem own_d6_285 : decode method_4_code 285 = .ok (.iconst 4, 1) := by decide +kernel
theorem own_d6_286 : decode method_4_code 286 = .ok (.aload_n 0, 1) := by decide +kernel
theorem own_d6_287 : decode method_4_code 287 = .ok (.iconst 4, 1) := by decide +kernel
theorem own_d6_288 : decode method_4_code 288 = .ok (.caload, 1) := by decide +kernel
theorem own_d6_289 : decode method_4_code 289 = .ok (.castore, 1) := by decide +kernel
theorem own_d6_290 : decode method_4_code 290 = .ok (.dup, 1) := by decide +kernel
theorem own_d6_291 : decode method_4_code 291 = .ok (.iconst 5, 1) := by decide +kernel
theorem own_d6_292 : decode method_4_code 292 = .ok (.aload_n 0, 1) := by decide +kernel
theorem own_d6_293 : decode method_4_code 293 = .ok (.iconst 5, 1) := by decide +kernel
theorem own_d6_294 : decode method_4_code 294 = .ok (.caload, 1) := by decide +kernel
theorem own_d6_295 : decode method_4_code 295 = .ok (.castore, 1) := by decide +kernel
theorem own_d6_296 : decode method_4_code 296 = .ok (.dup, 1) := by decide +kernel
theorem own_d6_297 : decode method_4_code 297 = .ok (.bipush 6, 2) := by decide +kernel
theorem own_d6_299 : decode method_4_code 299 = .ok (.aload_n 0, 1) := by decide +kernel
theorem own_d6_300 : decode method_4_code 300 = .ok (.bipush 6, 2) := by decide +kernel
theorem own_d6_302 : decode method_4_code 302 = .ok (.caload, 1) := by decide +kernel
theorem own_d6_303 : decode method_4_code 303 = .ok (.castore, 1) := by decide +kernel
theorem own_d6_304 : decode method_4_code 304 = .ok (.invokespecial 40, 3) := by decide +kernel
theorem own_d6_307 : decode method_4_code 307 = .ok (.areturn, 1) := by decide +kernel
theorem own_d6_308 : decode method_4_code 308 = .ok (.new 26, 3) := by decide +kernel
theorem own_d6_311 : decode method_4_code 311 = .ok (.dup, 1) := by decide +kernel
theorem own_d6_312 : decode method_4_code 312 = .ok (.bipush 8, 2) := by decide +kernel
theorem own_d6_314 : decode method_4_code 314 = .ok (.newarray .char, 2) := by decide +kernel
theorem own_d6_316 : decode method_4_code 316 = .ok (.dup, 1) := by decide +kernel
theorem own_d6_317 : decode method_4_code 317 = .ok (.iconst 0, 1) := by decide +kernel
theorem own_d6_318 : decode method_4_code 318 = .ok (.aload_n 0, 1) := by decide +kernel
theorem own_d6_319 : decode method_4_code 319 = .ok (.iconst 0, 1) := by decide +kernel
theorem own_d6_320 : decode method_4_code 320 = .ok (.caload, 1) := by decide +kernel
theorem own_d6_321 : decode method_4_code 321 = .ok (.castore, 1) := by decide +kernel
theorem own_d6_322 : decode method_4_code 322 = .ok (.dup, 1) := by decide +kernel
theorem own_d6_323 : decode method_4_code 323 = .ok (.iconst 1, 1) := by decide +kernel
theorem own_d6_324 : decode method_4_code 324 = .ok (.aload_n 0, 1) := by decide +kernel
theorem own_d6_325 : decode method_4_code 325 = .ok (.iconst 1, 1) := by decide +kernel
theorem own_d6_326 : decode method_4_code 326 = .ok (.caload, 1) := by decide +kernel
theorem own_d6_327 : decode method_4_code 327 = .ok (.castore, 1) := by decide +kernel
theorem own_d6_328 : decode method_4_code 328 = .ok (.dup, 1) := by decide +kernel
theorem own_d6_329 : decode method_4_code 329 = .ok (.iconst 2, 1) := by decide +kernel
theorem own_d6_330 : decode method_4_code 330 = .ok (.aload_n 0, 1) := by decide +kernel
theorem own_d6_331 : decode method_4_code 331 = .ok (.iconst 2, 1) := by decide +kernel
theorem own_d6_332 : decode method_4_code 332 = .ok (.caload, 1) := by decide +kernel
theorem own_d6_333 : decode method_4_code 333 = .ok (.castore, 1) := by decide +kernel
theorem own_d6_334 : decode method_4_code 334 = .ok (.dup, 1) := by decide +kernel
theorem own_d6_335 : decode method_4_code 335 = .ok (.iconst 3, 1) := by decide +kernel
theorem own_d6_336 : decode method_4_code 336 = .ok (.aload_n 0, 1) := by decide +kernel
theorem own_d6_337 : decode method_4_code 337 = .ok (.iconst 3, 1) := by decide +kernel
theorem own_d6_338 : decode method_4_code 338 = .ok (.caload, 1) := by decide +kernel
theorem own_d6_339 : decode method_4_code 339 = .ok (.castore, 1) := by decide +kernel
theorem own_d6_340 : decode method_4_code 340 = .ok (.dup, 1) := by decide +kernel
theorem own_d6_341 : decode method_4_code 341 = .ok (.iconst 4, 1) := by decide +kernel
theorem own_d6_342 : decode method_4_code 342 = .ok (.aload_n 0, 1) := by decide +kernel
theorem own_d6_343 : decode method_4_code 343 = .ok (.iconst 4, 1) := by decide +kernel
theorem own_d6_344 : decode method_4_code 344 = .ok (.caload, 1) := by decide +kernel
theorem own_d6_345 : decode method_4_code 345 = .ok (.castore, 1) := by decide +kernel
theorem own_d6_346 : decode method_4_code 346 = .ok (.dup, 1) := by decide +kernel
theorem own_d6_347 : decode method_4_code 347 = .ok (.iconst 5, 1) := by decide +kernel
theorem own_d6_348 : decode method_4_code 348 = .ok (.aload_n 0, 1) := by decide +kernel
theorem own_d6_349 : decode method_4_code 349 = .ok (.iconst 5, 1) := by decide +kernel
theorem own_d6_350 : decode method_4_code 350 = .ok (.caload, 1) := by decide +kernel
theorem own_d6_351 : decode method_4_code 351 = .ok (.castore, 1) := by decide +kernel
theorem own_d6_352 : decode method_4_code 352 = .ok (.dup, 1) := by decide +kernel
theorem own_d6_353 : decode method_4_code 353 = .ok (.bipush 6, 2) := by decide +kernel
theorem own_d6_355 : decode method_4_code 355 = .ok (.aload_n 0, 1) := by decide +kernel
theorem own_d6_356 : decode method_4_code 356 = .ok (.bipush 6, 2) := by decide +kernel
theorem own_d6_358 : decode method_4_code 358 = .ok (.caload, 1) := by decide +kernel
theorem own_d6_359 : decode method_4_code 359 = .ok (.castore, 1) := by decide +kernel
theorem own_d6_360 : decode method_4_code 360 = .ok (.dup, 1) := by decide +kernel
theorem own_d6_361 : decode method_4_code 361 = .ok (.bipush 7, 2) := by decide +kernel
theorem own_d6_363 : decode method_4_code 363 = .ok (.aload_n 0, 1) := by decide +kernel
theorem own_d6_364 : decode method_4_code 364 = .ok (.bipush 7, 2) := by decide +kernel
theorem own_d6_366 : decode method_4_code 366 = .ok (.caload, 1) := by decide +kernel
theorem own_d6_367 : decode method_4_code 367 = .ok (.castore, 1) := by decide +kernel
theorem own_d6_368 : decode method_4_code 368 = .ok (.invokespecial 40, 3) := by decide +kernel
theorem own_d6_371 : decode method_4_code 371 = .ok (.areturn, 1) := by decide +kernel
theorem own_ef_own_cut (m : MethodId) (b : Addr) (ln : Int32) : entryFrame m #[(.ref b), (.int ln)] 2 = mkF m 0 #[rv b, iv ln] [] := by first | (simp [entryFrame, mkF, argsToLocals, Value.category]; done) | rfl
set_option maxRecDepth 65536 in
set_option maxHeartbeats 40000000 in
theorem own_cut (l : Launch) (Z : State) (a0 : Array Value) (H : own_Wld Z a0) {cw : List Jvm.Cond} (b : Addr) (ln : Int32) (cs : List Int32) (h0 : Heap) (O0 : Ext Z.heap h0) {kb : ClassId} {dv : Value} (A_b : Arv Z h0 b kb .char (8 : Int32) (cs.map Value.int) dv) (hlen : cs.length = 8) (hr : ∀ c ∈ cs, ¬ c < 0 ∧ ¬ (255 : Int32) < c) :
    Own.Con l Z consts_1 (⟨"com/example/earnline/earnline/book/LedgerExportNamedPinLaw", "cut", "([CI)Ljava/lang/String;"⟩ : MethodName) method_4_code 2 (some (.object "java/lang/String")) cw ({ frames := 4, cells := 6, slots := 20, locals := 66 } : Room) #[(.ref b), (.int ln)] h0 (fun v h => Keep h0 h [] ∧ ∃ x t cs, v = some (.ref x) ∧ Own.Str Z h x t cs ∧ h0.size ≤ x) := by
  have hw := H.1
  have hW := fun (i : Nat) (w : Jvm.Cond) (e : tables_1[i]? = some w) => hw w (List.mem_of_getElem? e)
  have hCm := H.2.1
  have hSi := H.2.2.1
  have hEL := H.2.2.2
  have hWs : ∀ d ∈ StrChars.Road.words, d.before a0 Z = true := fun d hd => hw d (own_wbackV d hd)
  have hWe : ∀ d ∈ StrChars.Road.wordsEq, d.before a0 Z = true := fun d hd => hw d (own_weqW d hd)
  have hSA : ∀ d ∈ Bundle.stringAtoms, d.before a0 Z = true := fun d hd => hw d (own_wSA d hd)
  refine Own.Con.of own_pn424caa hEL O0 ?_
  intro p e s m below meth c T0 G vm0 hx hby hml hret hnm hG hR S0
  have hz : ∀ L : Array Slot, L.size = 2 → L.size = c.maxLocals := fun L q => q.trans hml.symm
  rw [own_ef_own_cut]
  show G T0 (mkF m 0 #[rv b, iv ln] [])
  refine hG.st (fun t q => XS.iloadN S0.here hx rfl (hb hby own_d6_0) rfl q) ?_
  show G T0 (mkF m 1 #[rv b, iv ln] [(.int ln)])
  by_cases hs1_0 : ln = (0 : Int32)
  ·
    refine hG.st (fun t q => XS.tswIn S0.here hx rfl (pc0 := 1) (pc' := 48) rfl (hb hby own_d6_1) rfl (by rw [hs1_0]; decide) (by rw [hs1_0]; rfl) (by decide) (by decide) q) ?_
    show G T0 (mkF m 48 #[rv b, iv ln] [])
    refine Own.Sit.newO hG S0 hx (hW 5 _ rfl) (hW 6 _ rfl) (hW 7 _ rfl) rfl (hb hby own_d6_48) (by decide) (by decide) (fun T69 h69 x69 g_x69 S69 J69 Sf69 E69 D69 => ?_)
    have lt_x69 := E69.lt
    have ga_x69 : Z.heap.size ≤ x69 := Nat.le_trans S0.le (Nat.le_of_eq g_x69.symm)
    have F70 : Fld Z h69 x69 "java/lang/String" "coder" "B" (.int 0) := D69 (Or.inr (hW 31 _ rfl)) (ty := .byte) (by decide)
    have F71 : Fld Z h69 x69 "java/lang/String" "value" "[B" .null := D69 (Or.inr (hW 33 _ rfl)) (ty := (.array .byte)) (by decide)
    refine hG.st (fun t q => XS.dup S69.here hx rfl (hb hby own_d6_51) rfl rfl (XS.iconst S69.here hx rfl (hb hby own_d6_52) q)) ?_
    show G T69 (mkF m 53 #[rv b, iv ln] [(.int 0), (.ref x69), (.ref x69)])
    refine Own.Sit.newP hG S69 hx (aty := .char) (hW 0 _ rfl) rfl (hb hby own_d6_53) rfl (by decide) (cap := 0) (by decide) (by decide) (by decide) (by decide) (fun T72 h72 x72 k72 g_x72 S72 J72 Sf72 (V72 : Arv Z h72 x72 k72 .char (0 : Int32) [] (.int 0)) => ?_)
    have lt_x72 := V72.lt
    have ga_x72 : Z.heap.size ≤ x72 := Nat.le_trans S69.le (Nat.le_of_eq g_x72.symm)
    have E73 := J72.exa E69
    have F74 := J72.fld F71 nin0
    have F75 := J72.fld F70 nin0
    show G T72 (mkF m 55 #[rv b, iv ln] [(.ref x72), (.ref x69), (.ref x69)])
    refine Own.Sit.callI hG S72 hx hEL rfl (as := [(.ref x72)]) (hW 8 _ rfl) (hW 9 _ rfl) (hW 7 _ rfl) (hW 10 _ rfl) (by decide) (own_emp1 l Z a0 H x69 x72 h72 S72.old ga_x69 E73 F74 F75 V72) own_pd827e25 rfl rfl (hz _ rfl) (rest := [(.ref x69)]) rfl (W := 1) (Own.hw0 rfl rfl) (hb hby own_d6_55) (by decide) (by decide) (by decide) (by decide) (fun v76 vm76 T76 h76 S76 C76 q76 => ?_)
    obtain ⟨K76, rfl, y76, St76⟩ := q76
    have J76 : Own.Stp Z consts_1 vm0 h72 vm76 h76 [x69] := ⟨K76, C76⟩
    have J77 : Own.Stp Z consts_1 vm0 h0 vm0 h72 [] := Own.Stp.trans J69 J72 (all0) all0
    have J78 : Own.Stp Z consts_1 vm0 h0 vm76 h76 [] := Own.Stp.trans J77 J76 (all0) (allS (Or.inr (Nat.le_of_eq g_x69.symm)) all0)
    show G T76 (mkF m 58 #[rv b, iv ln] [(.ref x69)])
    exact Own.Sit.retO hR S76 hx hret rfl (Or.inr (Or.inr (Or.inr (Or.inr ⟨rfl, rfl, rfl⟩)))) (hb hby own_d6_58) (by decide) (by decide) ⟨J78.1, x69, _, _, rfl, St76, (Nat.le_of_eq g_x69.symm)⟩
  by_cases hs1_1 : ln = (1 : Int32)
  ·
    refine hG.st (fun t q => XS.tswIn S0.here hx rfl (pc0 := 1) (pc' := 59) rfl (hb hby own_d6_1) rfl (by rw [hs1_1]; decide) (by rw [hs1_1]; rfl) (by decide) (by decide) q) ?_
    show G T0 (mkF m 59 #[rv b, iv ln] [])
    refine Own.Sit.newO hG S0 hx (hW 5 _ rfl) (hW 6 _ rfl) (hW 7 _ rfl) rfl (hb hby own_d6_59) (by decide) (by decide) (fun T79 h79 x79 g_x79 S79 J79 Sf79 E79 D79 => ?_)
    have lt_x79 := E79.lt
    have ga_x79 : Z.heap.size ≤ x79 := Nat.le_trans S0.le (Nat.le_of_eq g_x79.symm)
    have F80 : Fld Z h79 x79 "java/lang/String" "coder" "B" (.int 0) := D79 (Or.inr (hW 31 _ rfl)) (ty := .byte) (by decide)
    have F81 : Fld Z h79 x79 "java/lang/String" "value" "[B" .null := D79 (Or.inr (hW 33 _ rfl)) (ty := (.array .byte)) (by decide)
    refine hG.st (fun t q => XS.dup S79.here hx rfl (hb hby own_d6_62) rfl rfl (XS.iconst S79.here hx rfl (hb hby own_d6_63) q)) ?_
    show G T79 (mkF m 64 #[rv b, iv ln] [(.int 1), (.ref x79), (.ref x79)])
    refine Own.Sit.newP hG S79 hx (aty := .char) (hW 0 _ rfl) rfl (hb hby own_d6_64) rfl (by decide) (cap := 1) (by decide) (by decide) (by decide) (by decide) (fun T82 h82 x82 k82 g_x82 S82 J82 Sf82 (V82 : Arv Z h82 x82 k82 .char (1 : Int32) [(.int 0)] (.int 0)) => ?_)
    have lt_x82 := V82.lt
    have ga_x82 : Z.heap.size ≤ x82 := Nat.le_trans S79.le (Nat.le_of_eq g_x82.symm)
    refine hG.st (fun t q => XS.dup S82.here hx rfl (hb hby own_d6_66) rfl rfl (XS.iconst S82.here hx rfl (hb hby own_d6_67) (XS.aloadN S82.here hx rfl (hb hby own_d6_68) rfl rfl (XS.iconst S82.here hx rfl (hb hby own_d6_69) q)))) ?_
    show G T82 (mkF m 70 #[rv b, iv ln] [(.int 0), (.ref b), (.int 0), (.ref x82), (.ref x82), (.ref x79), (.ref x79)])
    have J83 : Own.Stp Z consts_1 vm0 h0 vm0 h82 [] := Own.Stp.trans J79 J82 (all0) all0
    have V84 := J83.arv A_b nin0
    refine Own.Sit.caload hG S82 hx V84 ⟨by decide, by decide⟩ (own_get (i := 0) (by rw [hlen]; decide)) rfl rfl (hb hby own_d6_70) ?_
    obtain ⟨d85, ed85⟩ : ∃ z, z = cs.getD 0 0 := ⟨_, rfl⟩
    rw [← ed85]
    have rd85 : ¬ d85 < 0 ∧ ¬ (255 : Int32) < d85 := ed85 ▸ own_rg hr 0
    show G T82 (mkF m 71 #[rv b, iv ln] [(.int d85), (.int 0), (.ref x82), (.ref x82), (.ref x79), (.ref x79)])
    refine Own.Sit.stC hG S82 hx V82 ga_x82 ⟨by decide, by decide⟩ 0 rfl (Nat.le_of_ble_eq_true rfl) rfl rfl (hb hby own_d6_71) (fun T86 h86 S86 J86 (V86 : Arv Z h86 x82 k82 .char (1 : Int32) [(.int (nar .char d85))] (.int 0)) => ?_)
    rw [own_nar rd85] at V86
    have J87 : Own.Stp Z consts_1 vm0 h79 vm0 h86 [] := Own.Stp.trans J82 J86 (all0) (allS (Or.inr (Nat.le_of_eq g_x82.symm)) all0)
    have E88 := J87.exa E79
    have F89 := J87.fld F81 nin0
    have F90 := J87.fld F80 nin0
    have Sf91 := J87.safe lt_x79 Sf79
    have hp92 : ∀ c ∈ ([d85] : List Int32), ¬ c < 0 ∧ ¬ (255 : Int32) < c := by
      intro c hc
      simp only [List.mem_cons, List.not_mem_nil, or_false] at hc
      rcases hc with rfl
      · exact rd85
    show G T86 (mkF m 72 #[rv b, iv ln] [(.ref x82), (.ref x79), (.ref x79)])
    refine Own.Sit.newStr hG S86 hx hWs hCm (hW 6 _ rfl) (hW 8 _ rfl) (hW 9 _ rfl) (cs := ([d85] : List Int32)) ga_x79 Sf91 E88 F89 F90 V86 rfl (Nat.le_of_ble_eq_true rfl) (Nat.le_of_ble_eq_true rfl) hp92 (nn := 1) (Nat.le_of_ble_eq_true rfl) rfl (hz _ rfl) (rest := [(.ref x79)]) rfl (W := 1) (Own.hw0 rfl rfl) (hb hby own_d6_72) (by decide) (by decide) (by decide) (by decide) (fun T93 h93 y93 S93 J93 u93 St93 => ?_)
    have J94 : Own.Stp Z consts_1 vm0 h0 vm0 h86 [] := Own.Stp.trans J83 J86 (all0) (allS (Or.inr (Nat.le_trans J79.1.1 (Nat.le_of_eq g_x82.symm))) all0)
    have J95 : Own.Stp Z consts_1 vm0 h0 vm0 h93 [] := Own.Stp.trans J94 J93 (all0) (allS (Or.inr (Nat.le_of_eq g_x79.symm)) all0)
    show G T93 (mkF m 75 #[rv b, iv ln] [(.ref x79)])
    exact Own.Sit.retO hR S93 hx hret rfl (Or.inr (Or.inr (Or.inr (Or.inr ⟨rfl, rfl, rfl⟩)))) (hb hby own_d6_75) (by decide) (by decide) ⟨J95.1, x79, _, _, rfl, St93, (Nat.le_of_eq g_x79.symm)⟩
  by_cases hs1_2 : ln = (2 : Int32)
  ·
    refine hG.st (fun t q => XS.tswIn S0.here hx rfl (pc0 := 1) (pc' := 76) rfl (hb hby own_d6_1) rfl (by rw [hs1_2]; decide) (by rw [hs1_2]; rfl) (by decide) (by decide) q) ?_
    show G T0 (mkF m 76 #[rv b, iv ln] [])
    refine Own.Sit.newO hG S0 hx (hW 5 _ rfl) (hW 6 _ rfl) (hW 7 _ rfl) rfl (hb hby own_d6_76) (by decide) (by decide) (fun T96 h96 x96 g_x96 S96 J96 Sf96 E96 D96 => ?_)
    have lt_x96 := E96.lt
    have ga_x96 : Z.heap.size ≤ x96 := Nat.le_trans S0.le (Nat.le_of_eq g_x96.symm)
    have F97 : Fld Z h96 x96 "java/lang/String" "coder" "B" (.int 0) := D96 (Or.inr (hW 31 _ rfl)) (ty := .byte) (by decide)
    have F98 : Fld Z h96 x96 "java/lang/String" "value" "[B" .null := D96 (Or.inr (hW 33 _ rfl)) (ty := (.array .byte)) (by decide)
    refine hG.st (fun t q => XS.dup S96.here hx rfl (hb hby own_d6_79) rfl rfl (XS.iconst S96.here hx rfl (hb hby own_d6_80) q)) ?_
    show G T96 (mkF m 81 #[rv b, iv ln] [(.int 2), (.ref x96), (.ref x96)])
    refine Own.Sit.newP hG S96 hx (aty := .char) (hW 0 _ rfl) rfl (hb hby own_d6_81) rfl (by decide) (cap := 2) (by decide) (by decide) (by decide) (by decide) (fun T99 h99 x99 k99 g_x99 S99 J99 Sf99 (V99 : Arv Z h99 x99 k99 .char (2 : Int32) [(.int 0), (.int 0)] (.int 0)) => ?_)
    have lt_x99 := V99.lt
    have ga_x99 : Z.heap.size ≤ x99 := Nat.le_trans S96.le (Nat.le_of_eq g_x99.symm)
    refine hG.st (fun t q => XS.dup S99.here hx rfl (hb hby own_d6_83) rfl rfl (XS.iconst S99.here hx rfl (hb hby own_d6_84) (XS.aloadN S99.here hx rfl (hb hby own_d6_85) rfl rfl (XS.iconst S99.here hx rfl (hb hby own_d6_86) q)))) ?_
    show G T99 (mkF m 87 #[rv b, iv ln] [(.int 0), (.ref b), (.int 0), (.ref x99), (.ref x99), (.ref x96), (.ref x96)])
    have J100 : Own.Stp Z consts_1 vm0 h0 vm0 h99 [] := Own.Stp.trans J96 J99 (all0) all0
    have V101 := J100.arv A_b nin0
    refine Own.Sit.caload hG S99 hx V101 ⟨by decide, by decide⟩ (own_get (i := 0) (by rw [hlen]; decide)) rfl rfl (hb hby own_d6_87) ?_
    obtain ⟨d102, ed102⟩ : ∃ z, z = cs.getD 0 0 := ⟨_, rfl⟩
    rw [← ed102]
    have rd102 : ¬ d102 < 0 ∧ ¬ (255 : Int32) < d102 := ed102 ▸ own_rg hr 0
    show G T99 (mkF m 88 #[rv b, iv ln] [(.int d102), (.int 0), (.ref x99), (.ref x99), (.ref x96), (.ref x96)])
    refine Own.Sit.stC hG S99 hx V99 ga_x99 ⟨by decide, by decide⟩ 0 rfl (Nat.le_of_ble_eq_true rfl) rfl rfl (hb hby own_d6_88) (fun T103 h103 S103 J103 (V103 : Arv Z h103 x99 k99 .char (2 : Int32) [(.int (nar .char d102)), (.int 0)] (.int 0)) => ?_)
    rw [own_nar rd102] at V103
    refine hG.st (fun t q => XS.dup S103.here hx rfl (hb hby own_d6_89) rfl rfl (XS.iconst S103.here hx rfl (hb hby own_d6_90) (XS.aloadN S103.here hx rfl (hb hby own_d6_91) rfl rfl (XS.iconst S103.here hx rfl (hb hby own_d6_92) q)))) ?_
    show G T103 (mkF m 93 #[rv b, iv ln] [(.int 1), (.ref b), (.int 1), (.ref x99), (.ref x99), (.ref x96), (.ref x96)])
    have V104 := J103.arv V101 (ninS (Nat.ne_of_lt (Nat.lt_of_lt_of_le (Nat.lt_of_lt_of_le A_b.lt J96.1.1) (Nat.le_of_eq g_x99.symm))) nin0)
    refine Own.Sit.caload hG S103 hx V104 ⟨by decide, by decide⟩ (own_get (i := 1) (by rw [hlen]; decide)) rfl rfl (hb hby own_d6_93) ?_
    obtain ⟨d105, ed105⟩ : ∃ z, z = cs.getD 1 0 := ⟨_, rfl⟩
    rw [← ed105]
    have rd105 : ¬ d105 < 0 ∧ ¬ (255 : Int32) < d105 := ed105 ▸ own_rg hr 1
    show G T103 (mkF m 94 #[rv b, iv ln] [(.int d105), (.int 1), (.ref x99), (.ref x99), (.ref x96), (.ref x96)])
    refine Own.Sit.stC hG S103 hx V103 ga_x99 ⟨by decide, by decide⟩ 1 rfl (Nat.le_of_ble_eq_true rfl) rfl rfl (hb hby own_d6_94) (fun T106 h106 S106 J106 (V106 : Arv Z h106 x99 k99 .char (2 : Int32) [(.int d102), (.int (nar .char d105))] (.int 0)) => ?_)
    rw [own_nar rd105] at V106
    have J107 : Own.Stp Z consts_1 vm0 h96 vm0 h103 [] := Own.Stp.trans J99 J103 (all0) (allS (Or.inr (Nat.le_of_eq g_x99.symm)) all0)
    have J108 : Own.Stp Z consts_1 vm0 h96 vm0 h106 [] := Own.Stp.trans J107 J106 (all0) (allS (Or.inr (Nat.le_of_eq g_x99.symm)) all0)
    have E109 := J108.exa E96
    have F110 := J108.fld F98 nin0
    have F111 := J108.fld F97 nin0
    have Sf112 := J108.safe lt_x96 Sf96
    have hp113 : ∀ c ∈ ([d102, d105] : List Int32), ¬ c < 0 ∧ ¬ (255 : Int32) < c := by
      intro c hc
      simp only [List.mem_cons, List.not_mem_nil, or_false] at hc
      rcases hc with rfl | rfl
      · exact rd102
      · exact rd105
    show G T106 (mkF m 95 #[rv b, iv ln] [(.ref x99), (.ref x96), (.ref x96)])
    refine Own.Sit.newStr hG S106 hx hWs hCm (hW 6 _ rfl) (hW 8 _ rfl) (hW 9 _ rfl) (cs := ([d102, d105] : List Int32)) ga_x96 Sf112 E109 F110 F111 V106 rfl (Nat.le_of_ble_eq_true rfl) (Nat.le_of_ble_eq_true rfl) hp113 (nn := 2) (Nat.le_of_ble_eq_true rfl) rfl (hz _ rfl) (rest := [(.ref x96)]) rfl (W := 1) (Own.hw0 rfl rfl) (hb hby own_d6_95) (by decide) (by decide) (by decide) (by decide) (fun T114 h114 y114 S114 J114 u114 St114 => ?_)
    have J115 : Own.Stp Z consts_1 vm0 h0 vm0 h103 [] := Own.Stp.trans J100 J103 (all0) (allS (Or.inr (Nat.le_trans J96.1.1 (Nat.le_of_eq g_x99.symm))) all0)
    have J116 : Own.Stp Z consts_1 vm0 h0 vm0 h106 [] := Own.Stp.trans J115 J106 (all0) (allS (Or.inr (Nat.le_trans J96.1.1 (Nat.le_of_eq g_x99.symm))) all0)
    have J117 : Own.Stp Z consts_1 vm0 h0 vm0 h114 [] := Own.Stp.trans J116 J114 (all0) (allS (Or.inr (Nat.le_of_eq g_x96.symm)) all0)
    show G T114 (mkF m 98 #[rv b, iv ln] [(.ref x96)])
    exact Own.Sit.retO hR S114 hx hret rfl (Or.inr (Or.inr (Or.inr (Or.inr ⟨rfl, rfl, rfl⟩)))) (hb hby own_d6_98) (by decide) (by decide) ⟨J117.1, x96, _, _, rfl, St114, (Nat.le_of_eq g_x96.symm)⟩
  by_cases hs1_3 : ln = (3 : Int32)
  ·
    refine hG.st (fun t q => XS.tswIn S0.here hx rfl (pc0 := 1) (pc' := 99) rfl (hb hby own_d6_1) rfl (by rw [hs1_3]; decide) (by rw [hs1_3]; rfl) (by decide) (by decide) q) ?_
    show G T0 (mkF m 99 #[rv b, iv ln] [])
    refine Own.Sit.newO hG S0 hx (hW 5 _ rfl) (hW 6 _ rfl) (hW 7 _ rfl) rfl (hb hby own_d6_99) (by decide) (by decide) (fun T118 h118 x118 g_x118 S118 J118 Sf118 E118 D118 => ?_)
    have lt_x118 := E118.lt
    have ga_x118 : Z.heap.size ≤ x118 := Nat.le_trans S0.le (Nat.le_of_eq g_x118.symm)
    have F119 : Fld Z h118 x118 "java/lang/String" "coder" "B" (.int 0) := D118 (Or.inr (hW 31 _ rfl)) (ty := .byte) (by decide)
    have F120 : Fld Z h118 x118 "java/lang/String" "value" "[B" .null := D118 (Or.inr (hW 33 _ rfl)) (ty := (.array .byte)) (by decide)
    refine hG.st (fun t q => XS.dup S118.here hx rfl (hb hby own_d6_102) rfl rfl (XS.iconst S118.here hx rfl (hb hby own_d6_103) q)) ?_
    show G T118 (mkF m 104 #[rv b, iv ln] [(.int 3), (.ref x118), (.ref x118)])
    refine Own.Sit.newP hG S118 hx (aty := .char) (hW 0 _ rfl) rfl (hb hby own_d6_104) rfl (by decide) (cap := 3) (by decide) (by decide) (by decide) (by decide) (fun T121 h121 x121 k121 g_x121 S121 J121 Sf121 (V121 : Arv Z h121 x121 k121 .char (3 : Int32) [(.int 0), (.int 0), (.int 0)] (.int 0)) => ?_)
    have lt_x121 := V121.lt
    have ga_x121 : Z.heap.size ≤ x121 := Nat.le_trans S118.le (Nat.le_of_eq g_x121.symm)
    refine hG.st (fun t q => XS.dup S121.here hx rfl (hb hby own_d6_106) rfl rfl (XS.iconst S121.here hx rfl (hb hby own_d6_107) (XS.aloadN S121.here hx rfl (hb hby own_d6_108) rfl rfl (XS.iconst S121.here hx rfl (hb hby own_d6_109) q)))) ?_
    show G T121 (mkF m 110 #[rv b, iv ln] [(.int 0), (.ref b), (.int 0), (.ref x121), (.ref x121), (.ref x118), (.ref x118)])
    have J122 : Own.Stp Z consts_1 vm0 h0 vm0 h121 [] := Own.Stp.trans J118 J121 (all0) all0
    have V123 := J122.arv A_b nin0
    refine Own.Sit.caload hG S121 hx V123 ⟨by decide, by decide⟩ (own_get (i := 0) (by rw [hlen]; decide)) rfl rfl (hb hby own_d6_110) ?_
    obtain ⟨d124, ed124⟩ : ∃ z, z = cs.getD 0 0 := ⟨_, rfl⟩
    rw [← ed124]
    have rd124 : ¬ d124 < 0 ∧ ¬ (255 : Int32) < d124 := ed124 ▸ own_rg hr 0
    show G T121 (mkF m 111 #[rv b, iv ln] [(.int d124), (.int 0), (.ref x121), (.ref x121), (.ref x118), (.ref x118)])
    refine Own.Sit.stC hG S121 hx V121 ga_x121 ⟨by decide, by decide⟩ 0 rfl (Nat.le_of_ble_eq_true rfl) rfl rfl (hb hby own_d6_111) (fun T125 h125 S125 J125 (V125 : Arv Z h125 x121 k121 .char (3 : Int32) [(.int (nar .char d124)), (.int 0), (.int 0)] (.int 0)) => ?_)
    rw [own_nar rd124] at V125
    refine hG.st (fun t q => XS.dup S125.here hx rfl (hb hby own_d6_112) rfl rfl (XS.iconst S125.here hx rfl (hb hby own_d6_113) (XS.aloadN S125.here hx rfl (hb hby own_d6_114) rfl rfl (XS.iconst S125.here hx rfl (hb hby own_d6_115) q)))) ?_
    show G T125 (mkF m 116 #[rv b, iv ln] [(.int 1), (.ref b), (.int 1), (.ref x121), (.ref x121), (.ref x118), (.ref x118)])
    have V126 := J125.arv V123 (ninS (Nat.ne_of_lt (Nat.lt_of_lt_of_le (Nat.lt_of_lt_of_le A_b.lt J118.1.1) (Nat.le_of_eq g_x121.symm))) nin0)
    refine Own.Sit.caload hG S125 hx V126 ⟨by decide, by decide⟩ (own_get (i := 1) (by rw [hlen]; decide)) rfl rfl (hb hby own_d6_116) ?_
    obtain ⟨d127, ed127⟩ : ∃ z, z = cs.getD 1 0 := ⟨_, rfl⟩
    rw [← ed127]
    have rd127 : ¬ d127 < 0 ∧ ¬ (255 : Int32) < d127 := ed127 ▸ own_rg hr 1
    show G T125 (mkF m 117 #[rv b, iv ln] [(.int d127), (.int 1), (.ref x121), (.ref x121), (.ref x118), (.ref x118)])
    refine Own.Sit.stC hG S125 hx V125 ga_x121 ⟨by decide, by decide⟩ 1 rfl (Nat.le_of_ble_eq_true rfl) rfl rfl (hb hby own_d6_117) (fun T128 h128 S128 J128 (V128 : Arv Z h128 x121 k121 .char (3 : Int32) [(.int d124), (.int (nar .char d127)), (.int 0)] (.int 0)) => ?_)
    rw [own_nar rd127] at V128
    refine hG.st (fun t q => XS.dup S128.here hx rfl (hb hby own_d6_118) rfl rfl (XS.iconst S128.here hx rfl (hb hby own_d6_119) (XS.aloadN S128.here hx rfl (hb hby own_d6_120) rfl rfl (XS.iconst S128.here hx rfl (hb hby own_d6_121) q)))) ?_
    show G T128 (mkF m 122 #[rv b, iv ln] [(.int 2), (.ref b), (.int 2), (.ref x121), (.ref x121), (.ref x118), (.ref x118)])
    have V129 := J128.arv V126 (ninS (Nat.ne_of_lt (Nat.lt_of_lt_of_le (Nat.lt_of_lt_of_le A_b.lt J118.1.1) (Nat.le_of_eq g_x121.symm))) nin0)
    refine Own.Sit.caload hG S128 hx V129 ⟨by decide, by decide⟩ (own_get (i := 2) (by rw [hlen]; decide)) rfl rfl (hb hby own_d6_122) ?_
    obtain ⟨d130, ed130⟩ : ∃ z, z = cs.getD 2 0 := ⟨_, rfl⟩
    rw [← ed130]
    have rd130 : ¬ d130 < 0 ∧ ¬ (255 : Int32) < d130 := ed130 ▸ own_rg hr 2
    show G T128 (mkF m 123 #[rv b, iv ln] [(.int d130), (.int 2), (.ref x121), (.ref x121), (.ref x118), (.ref x118)])
    refine Own.Sit.stC hG S128 hx V128 ga_x121 ⟨by decide, by decide⟩ 2 rfl (Nat.le_of_ble_eq_true rfl) rfl rfl (hb hby own_d6_123) (fun T131 h131 S131 J131 (V131 : Arv Z h131 x121 k121 .char (3 : Int32) [(.int d124), (.int d127), (.int (nar .char d130))] (.int 0)) => ?_)
    rw [own_nar rd130] at V131
    have J132 : Own.Stp Z consts_1 vm0 h118 vm0 h125 [] := Own.Stp.trans J121 J125 (all0) (allS (Or.inr (Nat.le_of_eq g_x121.symm)) all0)
    have J133 : Own.Stp Z consts_1 vm0 h118 vm0 h128 [] := Own.Stp.trans J132 J128 (all0) (allS (Or.inr (Nat.le_of_eq g_x121.symm)) all0)
    have J134 : Own.Stp Z consts_1 vm0 h118 vm0 h131 [] := Own.Stp.trans J133 J131 (all0) (allS (Or.inr (Nat.le_of_eq g_x121.symm)) all0)
    have E135 := J134.exa E118
    have F136 := J134.fld F120 nin0
    have F137 := J134.fld F119 nin0
    have Sf138 := J134.safe lt_x118 Sf118
    have hp139 : ∀ c ∈ ([d124, d127, d130] : List Int32), ¬ c < 0 ∧ ¬ (255 : Int32) < c := by
      intro c hc
      simp only [List.mem_cons, List.not_mem_nil, or_false] at hc
      rcases hc with rfl | rfl | rfl
      · exact rd124
      · exact rd127
      · exact rd130
    show G T131 (mkF m 124 #[rv b, iv ln] [(.ref x121), (.ref x118), (.ref x118)])
    refine Own.Sit.newStr hG S131 hx hWs hCm (hW 6 _ rfl) (hW 8 _ rfl) (hW 9 _ rfl) (cs := ([d124, d127, d130] : List Int32)) ga_x118 Sf138 E135 F136 F137 V131 rfl (Nat.le_of_ble_eq_true rfl) (Nat.le_of_ble_eq_true rfl) hp139 (nn := 3) (Nat.le_of_ble_eq_true rfl) rfl (hz _ rfl) (rest := [(.ref x118)]) rfl (W := 1) (Own.hw0 rfl rfl) (hb hby own_d6_124) (by decide) (by decide) (by decide) (by decide) (fun T140 h140 y140 S140 J140 u140 St140 => ?_)
    have J141 : Own.Stp Z consts_1 vm0 h0 vm0 h125 [] := Own.Stp.trans J122 J125 (all0) (allS (Or.inr (Nat.le_trans J118.1.1 (Nat.le_of_eq g_x121.symm))) all0)
    have J142 : Own.Stp Z consts_1 vm0 h0 vm0 h128 [] := Own.Stp.trans J141 J128 (all0) (allS (Or.inr (Nat.le_trans J118.1.1 (Nat.le_of_eq g_x121.symm))) all0)
    have J143 : Own.Stp Z consts_1 vm0 h0 vm0 h131 [] := Own.Stp.trans J142 J131 (all0) (allS (Or.inr (Nat.le_trans J118.1.1 (Nat.le_of_eq g_x121.symm))) all0)
    have J144 : Own.Stp Z consts_1 vm0 h0 vm0 h140 [] := Own.Stp.trans J143 J140 (all0) (allS (Or.inr (Nat.le_of_eq g_x118.symm)) all0)
    show G T140 (mkF m 127 #[rv b, iv ln] [(.ref x118)])
    exact Own.Sit.retO hR S140 hx hret rfl (Or.inr (Or.inr (Or.inr (Or.inr ⟨rfl, rfl, rfl⟩)))) (hb hby own_d6_127) (by decide) (by decide) ⟨J144.1, x118, _, _, rfl, St140, (Nat.le_of_eq g_x118.symm)⟩
  by_cases hs1_4 : ln = (4 : Int32)
  ·
    refine hG.st (fun t q => XS.tswIn S0.here hx rfl (pc0 := 1) (pc' := 128) rfl (hb hby own_d6_1) rfl (by rw [hs1_4]; decide) (by rw [hs1_4]; rfl) (by decide) (by decide) q) ?_
    show G T0 (mkF m 128 #[rv b, iv ln] [])
    refine Own.Sit.newO hG S0 hx (hW 5 _ rfl) (hW 6 _ rfl) (hW 7 _ rfl) rfl (hb hby own_d6_128) (by decide) (by decide) (fun T145 h145 x145 g_x145 S145 J145 Sf145 E145 D145 => ?_)
    have lt_x145 := E145.lt
    have ga_x145 : Z.heap.size ≤ x145 := Nat.le_trans S0.le (Nat.le_of_eq g_x145.symm)
    have F146 : Fld Z h145 x145 "java/lang/String" "coder" "B" (.int 0) := D145 (Or.inr (hW 31 _ rfl)) (ty := .byte) (by decide)
    have F147 : Fld Z h145 x145 "java/lang/String" "value" "[B" .null := D145 (Or.inr (hW 33 _ rfl)) (ty := (.array .byte)) (by decide)
    refine hG.st (fun t q => XS.dup S145.here hx rfl (hb hby own_d6_131) rfl rfl (XS.iconst S145.here hx rfl (hb hby own_d6_132) q)) ?_
    show G T145 (mkF m 133 #[rv b, iv ln] [(.int 4), (.ref x145), (.ref x145)])
    refine Own.Sit.newP hG S145 hx (aty := .char) (hW 0 _ rfl) rfl (hb hby own_d6_133) rfl (by decide) (cap := 4) (by decide) (by decide) (by decide) (by decide) (fun T148 h148 x148 k148 g_x148 S148 J148 Sf148 (V148 : Arv Z h148 x148 k148 .char (4 : Int32) [(.int 0), (.int 0), (.int 0), (.int 0)] (.int 0)) => ?_)
    have lt_x148 := V148.lt
    have ga_x148 : Z.heap.size ≤ x148 := Nat.le_trans S145.le (Nat.le_of_eq g_x148.symm)
    refine hG.st (fun t q => XS.dup S148.here hx rfl (hb hby own_d6_135) rfl rfl (XS.iconst S148.here hx rfl (hb hby own_d6_136) (XS.aloadN S148.here hx rfl (hb hby own_d6_137) rfl rfl (XS.iconst S148.here hx rfl (hb hby own_d6_138) q)))) ?_
    show G T148 (mkF m 139 #[rv b, iv ln] [(.int 0), (.ref b), (.int 0), (.ref x148), (.ref x148), (.ref x145), (.ref x145)])
    have J149 : Own.Stp Z consts_1 vm0 h0 vm0 h148 [] := Own.Stp.trans J145 J148 (all0) all0
    have V150 := J149.arv A_b nin0
    refine Own.Sit.caload hG S148 hx V150 ⟨by decide, by decide⟩ (own_get (i := 0) (by rw [hlen]; decide)) rfl rfl (hb hby own_d6_139) ?_
    obtain ⟨d151, ed151⟩ : ∃ z, z = cs.getD 0 0 := ⟨_, rfl⟩
    rw [← ed151]
    have rd151 : ¬ d151 < 0 ∧ ¬ (255 : Int32) < d151 := ed151 ▸ own_rg hr 0
    show G T148 (mkF m 140 #[rv b, iv ln] [(.int d151), (.int 0), (.ref x148), (.ref x148), (.ref x145), (.ref x145)])
    refine Own.Sit.stC hG S148 hx V148 ga_x148 ⟨by decide, by decide⟩ 0 rfl (Nat.le_of_ble_eq_true rfl) rfl rfl (hb hby own_d6_140) (fun T152 h152 S152 J152 (V152 : Arv Z h152 x148 k148 .char (4 : Int32) [(.int (nar .char d151)), (.int 0), (.int 0), (.int 0)] (.int 0)) => ?_)
    rw [own_nar rd151] at V152
    refine hG.st (fun t q => XS.dup S152.here hx rfl (hb hby own_d6_141) rfl rfl (XS.iconst S152.here hx rfl (hb hby own_d6_142) (XS.aloadN S152.here hx rfl (hb hby own_d6_143) rfl rfl (XS.iconst S152.here hx rfl (hb hby own_d6_144) q)))) ?_
    show G T152 (mkF m 145 #[rv b, iv ln] [(.int 1), (.ref b), (.int 1), (.ref x148), (.ref x148), (.ref x145), (.ref x145)])
    have V153 := J152.arv V150 (ninS (Nat.ne_of_lt (Nat.lt_of_lt_of_le (Nat.lt_of_lt_of_le A_b.lt J145.1.1) (Nat.le_of_eq g_x148.symm))) nin0)
    refine Own.Sit.caload hG S152 hx V153 ⟨by decide, by decide⟩ (own_get (i := 1) (by rw [hlen]; decide)) rfl rfl (hb hby own_d6_145) ?_
    obtain ⟨d154, ed154⟩ : ∃ z, z = cs.getD 1 0 := ⟨_, rfl⟩
    rw [← ed154]
    have rd154 : ¬ d154 < 0 ∧ ¬ (255 : Int32) < d154 := ed154 ▸ own_rg hr 1
    show G T152 (mkF m 146 #[rv b, iv ln] [(.int d154), (.int 1), (.ref x148), (.ref x148), (.ref x145), (.ref x145)])
    refine Own.Sit.stC hG S152 hx V152 ga_x148 ⟨by decide, by decide⟩ 1 rfl (Nat.le_of_ble_eq_true rfl) rfl rfl (hb hby own_d6_146) (fun T155 h155 S155 J155 (V155 : Arv Z h155 x148 k148 .char (4 : Int32) [(.int d151), (.int (nar .char d154)), (.int 0), (.int 0)] (.int 0)) => ?_)
    rw [own_nar rd154] at V155
    refine hG.st (fun t q => XS.dup S155.here hx rfl (hb hby own_d6_147) rfl rfl (XS.iconst S155.here hx rfl (hb hby own_d6_148) (XS.aloadN S155.here hx rfl (hb hby own_d6_149) rfl rfl (XS.iconst S155.here hx rfl (hb hby own_d6_150) q)))) ?_
    show G T155 (mkF m 151 #[rv b, iv ln] [(.int 2), (.ref b), (.int 2), (.ref x148), (.ref x148), (.ref x145), (.ref x145)])
    have V156 := J155.arv V153 (ninS (Nat.ne_of_lt (Nat.lt_of_lt_of_le (Nat.lt_of_lt_of_le A_b.lt J145.1.1) (Nat.le_of_eq g_x148.symm))) nin0)
    refine Own.Sit.caload hG S155 hx V156 ⟨by decide, by decide⟩ (own_get (i := 2) (by rw [hlen]; decide)) rfl rfl (hb hby own_d6_151) ?_
    obtain ⟨d157, ed157⟩ : ∃ z, z = cs.getD 2 0 := ⟨_, rfl⟩
    rw [← ed157]
    have rd157 : ¬ d157 < 0 ∧ ¬ (255 : Int32) < d157 := ed157 ▸ own_rg hr 2
    show G T155 (mkF m 152 #[rv b, iv ln] [(.int d157), (.int 2), (.ref x148), (.ref x148), (.ref x145), (.ref x145)])
    refine Own.Sit.stC hG S155 hx V155 ga_x148 ⟨by decide, by decide⟩ 2 rfl (Nat.le_of_ble_eq_true rfl) rfl rfl (hb hby own_d6_152) (fun T158 h158 S158 J158 (V158 : Arv Z h158 x148 k148 .char (4 : Int32) [(.int d151), (.int d154), (.int (nar .char d157)), (.int 0)] (.int 0)) => ?_)
    rw [own_nar rd157] at V158
    refine hG.st (fun t q => XS.dup S158.here hx rfl (hb hby own_d6_153) rfl rfl (XS.iconst S158.here hx rfl (hb hby own_d6_154) (XS.aloadN S158.here hx rfl (hb hby own_d6_155) rfl rfl (XS.iconst S158.here hx rfl (hb hby own_d6_156) q)))) ?_
    show G T158 (mkF m 157 #[rv b, iv ln] [(.int 3), (.ref b), (.int 3), (.ref x148), (.ref x148), (.ref x145), (.ref x145)])
    have V159 := J158.arv V156 (ninS (Nat.ne_of_lt (Nat.lt_of_lt_of_le (Nat.lt_of_lt_of_le A_b.lt J145.1.1) (Nat.le_of_eq g_x148.symm))) nin0)
    refine Own.Sit.caload hG S158 hx V159 ⟨by decide, by decide⟩ (own_get (i := 3) (by rw [hlen]; decide)) rfl rfl (hb hby own_d6_157) ?_
    obtain ⟨d160, ed160⟩ : ∃ z, z = cs.getD 3 0 := ⟨_, rfl⟩
    rw [← ed160]
    have rd160 : ¬ d160 < 0 ∧ ¬ (255 : Int32) < d160 := ed160 ▸ own_rg hr 3
    show G T158 (mkF m 158 #[rv b, iv ln] [(.int d160), (.int 3), (.ref x148), (.ref x148), (.ref x145), (.ref x145)])
    refine Own.Sit.stC hG S158 hx V158 ga_x148 ⟨by decide, by decide⟩ 3 rfl (Nat.le_of_ble_eq_true rfl) rfl rfl (hb hby own_d6_158) (fun T161 h161 S161 J161 (V161 : Arv Z h161 x148 k148 .char (4 : Int32) [(.int d151), (.int d154), (.int d157), (.int (nar .char d160))] (.int 0)) => ?_)
    rw [own_nar rd160] at V161
    have J162 : Own.Stp Z consts_1 vm0 h145 vm0 h152 [] := Own.Stp.trans J148 J152 (all0) (allS (Or.inr (Nat.le_of_eq g_x148.symm)) all0)
    have J163 : Own.Stp Z consts_1 vm0 h145 vm0 h155 [] := Own.Stp.trans J162 J155 (all0) (allS (Or.inr (Nat.le_of_eq g_x148.symm)) all0)
    have J164 : Own.Stp Z consts_1 vm0 h145 vm0 h158 [] := Own.Stp.trans J163 J158 (all0) (allS (Or.inr (Nat.le_of_eq g_x148.symm)) all0)
    have J165 : Own.Stp Z consts_1 vm0 h145 vm0 h161 [] := Own.Stp.trans J164 J161 (all0) (allS (Or.inr (Nat.le_of_eq g_x148.symm)) all0)
    have E166 := J165.exa E145
    have F167 := J165.fld F147 nin0
    have F168 := J165.fld F146 nin0
    have Sf169 := J165.safe lt_x145 Sf145
    have hp170 : ∀ c ∈ ([d151, d154, d157, d160] : List Int32), ¬ c < 0 ∧ ¬ (255 : Int32) < c := by
      intro c hc
      simp only [List.mem_cons, List.not_mem_nil, or_false] at hc
      rcases hc with rfl | rfl | rfl | rfl
      · exact rd151
      · exact rd154
      · exact rd157
      · exact rd160
    show G T161 (mkF m 159 #[rv b, iv ln] [(.ref x148), (.ref x145), (.ref x145)])
    refine Own.Sit.newStr hG S161 hx hWs hCm (hW 6 _ rfl) (hW 8 _ rfl) (hW 9 _ rfl) (cs := ([d151, d154, d157, d160] : List Int32)) ga_x145 Sf169 E166 F167 F168 V161 rfl (Nat.le_of_ble_eq_true rfl) (Nat.le_of_ble_eq_true rfl) hp170 (nn := 4) (Nat.le_of_ble_eq_true rfl) rfl (hz _ rfl) (rest := [(.ref x145)]) rfl (W := 1) (Own.hw0 rfl rfl) (hb hby own_d6_159) (by decide) (by decide) (by decide) (by decide) (fun T171 h171 y171 S171 J171 u171 St171 => ?_)
    have J172 : Own.Stp Z consts_1 vm0 h0 vm0 h152 [] := Own.Stp.trans J149 J152 (all0) (allS (Or.inr (Nat.le_trans J145.1.1 (Nat.le_of_eq g_x148.symm))) all0)
    have J173 : Own.Stp Z consts_1 vm0 h0 vm0 h155 [] := Own.Stp.trans J172 J155 (all0) (allS (Or.inr (Nat.le_trans J145.1.1 (Nat.le_of_eq g_x148.symm))) all0)
    have J174 : Own.Stp Z consts_1 vm0 h0 vm0 h158 [] := Own.Stp.trans J173 J158 (all0) (allS (Or.inr (Nat.le_trans J145.1.1 (Nat.le_of_eq g_x148.symm))) all0)
    have J175 : Own.Stp Z consts_1 vm0 h0 vm0 h161 [] := Own.Stp.trans J174 J161 (all0) (allS (Or.inr (Nat.le_trans J145.1.1 (Nat.le_of_eq g_x148.symm))) all0)
    have J176 : Own.Stp Z consts_1 vm0 h0 vm0 h171 [] := Own.Stp.trans J175 J171 (all0) (allS (Or.inr (Nat.le_of_eq g_x145.symm)) all0)
    show G T171 (mkF m 162 #[rv b, iv ln] [(.ref x145)])
    exact Own.Sit.retO hR S171 hx hret rfl (Or.inr (Or.inr (Or.inr (Or.inr ⟨rfl, rfl, rfl⟩)))) (hb hby own_d6_162) (by decide) (by decide) ⟨J176.1, x145, _, _, rfl, St171, (Nat.le_of_eq g_x145.symm)⟩
  by_cases hs1_5 : ln = (5 : Int32)
  ·
    refine hG.st (fun t q => XS.tswIn S0.here hx rfl (pc0 := 1) (pc' := 163) rfl (hb hby own_d6_1) rfl (by rw [hs1_5]; decide) (by rw [hs1_5]; rfl) (by decide) (by decide) q) ?_
    show G T0 (mkF m 163 #[rv b, iv ln] [])
    refine Own.Sit.newO hG S0 hx (hW 5 _ rfl) (hW 6 _ rfl) (hW 7 _ rfl) rfl (hb hby own_d6_163) (by decide) (by decide) (fun T177 h177 x177 g_x177 S177 J177 Sf177 E177 D177 => ?_)
    have lt_x177 := E177.lt
    have ga_x177 : Z.heap.size ≤ x177 := Nat.le_trans S0.le (Nat.le_of_eq g_x177.symm)
    have F178 : Fld Z h177 x177 "java/lang/String" "coder" "B" (.int 0) := D177 (Or.inr (hW 31 _ rfl)) (ty := .byte) (by decide)
    have F179 : Fld Z h177 x177 "java/lang/String" "value" "[B" .null := D177 (Or.inr (hW 33 _ rfl)) (ty := (.array .byte)) (by decide)
    refine hG.st (fun t q => XS.dup S177.here hx rfl (hb hby own_d6_166) rfl rfl (XS.iconst S177.here hx rfl (hb hby own_d6_167) q)) ?_
    show G T177 (mkF m 168 #[rv b, iv ln] [(.int 5), (.ref x177), (.ref x177)])
    refine Own.Sit.newP hG S177 hx (aty := .char) (hW 0 _ rfl) rfl (hb hby own_d6_168) rfl (by decide) (cap := 5) (by decide) (by decide) (by decide) (by decide) (fun T180 h180 x180 k180 g_x180 S180 J180 Sf180 (V180 : Arv Z h180 x180 k180 .char (5 : Int32) [(.int 0), (.int 0), (.int 0), (.int 0), (.int 0)] (.int 0)) => ?_)
    have lt_x180 := V180.lt
    have ga_x180 : Z.heap.size ≤ x180 := Nat.le_trans S177.le (Nat.le_of_eq g_x180.symm)
    refine hG.st (fun t q => XS.dup S180.here hx rfl (hb hby own_d6_170) rfl rfl (XS.iconst S180.here hx rfl (hb hby own_d6_171) (XS.aloadN S180.here hx rfl (hb hby own_d6_172) rfl rfl (XS.iconst S180.here hx rfl (hb hby own_d6_173) q)))) ?_
    show G T180 (mkF m 174 #[rv b, iv ln] [(.int 0), (.ref b), (.int 0), (.ref x180), (.ref x180), (.ref x177), (.ref x177)])
    have J181 : Own.Stp Z consts_1 vm0 h0 vm0 h180 [] := Own.Stp.trans J177 J180 (all0) all0
    have V182 := J181.arv A_b nin0
    refine Own.Sit.caload hG S180 hx V182 ⟨by decide, by decide⟩ (own_get (i := 0) (by rw [hlen]; decide)) rfl rfl (hb hby own_d6_174) ?_
    obtain ⟨d183, ed183⟩ : ∃ z, z = cs.getD 0 0 := ⟨_, rfl⟩
    rw [← ed183]
    have rd183 : ¬ d183 < 0 ∧ ¬ (255 : Int32) < d183 := ed183 ▸ own_rg hr 0
    show G T180 (mkF m 175 #[rv b, iv ln] [(.int d183), (.int 0), (.ref x180), (.ref x180), (.ref x177), (.ref x177)])
    refine Own.Sit.stC hG S180 hx V180 ga_x180 ⟨by decide, by decide⟩ 0 rfl (Nat.le_of_ble_eq_true rfl) rfl rfl (hb hby own_d6_175) (fun T184 h184 S184 J184 (V184 : Arv Z h184 x180 k180 .char (5 : Int32) [(.int (nar .char d183)), (.int 0), (.int 0), (.int 0), (.int 0)] (.int 0)) => ?_)
    rw [own_nar rd183] at V184
    refine hG.st (fun t q => XS.dup S184.here hx rfl (hb hby own_d6_176) rfl rfl (XS.iconst S184.here hx rfl (hb hby own_d6_177) (XS.aloadN S184.here hx rfl (hb hby own_d6_178) rfl rfl (XS.iconst S184.here hx rfl (hb hby own_d6_179) q)))) ?_
    show G T184 (mkF m 180 #[rv b, iv ln] [(.int 1), (.ref b), (.int 1), (.ref x180), (.ref x180), (.ref x177), (.ref x177)])
    have V185 := J184.arv V182 (ninS (Nat.ne_of_lt (Nat.lt_of_lt_of_le (Nat.lt_of_lt_of_le A_b.lt J177.1.1) (Nat.le_of_eq g_x180.symm))) nin0)
    refine Own.Sit.caload hG S184 hx V185 ⟨by decide, by decide⟩ (own_get (i := 1) (by rw [hlen]; decide)) rfl rfl (hb hby own_d6_180) ?_
    obtain ⟨d186, ed186⟩ : ∃ z, z = cs.getD 1 0 := ⟨_, rfl⟩
    rw [← ed186]
    have rd186 : ¬ d186 < 0 ∧ ¬ (255 : Int32) < d186 := ed186 ▸ own_rg hr 1
    show G T184 (mkF m 181 #[rv b, iv ln] [(.int d186), (.int 1), (.ref x180), (.ref x180), (.ref x177), (.ref x177)])
    refine Own.Sit.stC hG S184 hx V184 ga_x180 ⟨by decide, by decide⟩ 1 rfl (Nat.le_of_ble_eq_true rfl) rfl rfl (hb hby own_d6_181) (fun T187 h187 S187 J187 (V187 : Arv Z h187 x180 k180 .char (5 : Int32) [(.int d183), (.int (nar .char d186)), (.int 0), (.int 0), (.int 0)] (.int 0)) => ?_)
    rw [own_nar rd186] at V187
    refine hG.st (fun t q => XS.dup S187.here hx rfl (hb hby own_d6_182) rfl rfl (XS.iconst S187.here hx rfl (hb hby own_d6_183) (XS.aloadN S187.here hx rfl (hb hby own_d6_184) rfl rfl (XS.iconst S187.here hx rfl (hb hby own_d6_185) q)))) ?_
    show G T187 (mkF m 186 #[rv b, iv ln] [(.int 2), (.ref b), (.int 2), (.ref x180), (.ref x180), (.ref x177), (.ref x177)])
    have V188 := J187.arv V185 (ninS (Nat.ne_of_lt (Nat.lt_of_lt_of_le (Nat.lt_of_lt_of_le A_b.lt J177.1.1) (Nat.le_of_eq g_x180.symm))) nin0)
    refine Own.Sit.caload hG S187 hx V188 ⟨by decide, by decide⟩ (own_get (i := 2) (by rw [hlen]; decide)) rfl rfl (hb hby own_d6_186) ?_
    obtain ⟨d189, ed189⟩ : ∃ z, z = cs.getD 2 0 := ⟨_, rfl⟩
    rw [← ed189]
    have rd189 : ¬ d189 < 0 ∧ ¬ (255 : Int32) < d189 := ed189 ▸ own_rg hr 2
    show G T187 (mkF m 187 #[rv b, iv ln] [(.int d189), (.int 2), (.ref x180), (.ref x180), (.ref x177), (.ref x177)])
    refine Own.Sit.stC hG S187 hx V187 ga_x180 ⟨by decide, by decide⟩ 2 rfl (Nat.le_of_ble_eq_true rfl) rfl rfl (hb hby own_d6_187) (fun T190 h190 S190 J190 (V190 : Arv Z h190 x180 k180 .char (5 : Int32) [(.int d183), (.int d186), (.int (nar .char d189)), (.int 0), (.int 0)] (.int 0)) => ?_)
    rw [own_nar rd189] at V190
    refine hG.st (fun t q => XS.dup S190.here hx rfl (hb hby own_d6_188) rfl rfl (XS.iconst S190.here hx rfl (hb hby own_d6_189) (XS.aloadN S190.here hx rfl (hb hby own_d6_190) rfl rfl (XS.iconst S190.here hx rfl (hb hby own_d6_191) q)))) ?_
    show G T190 (mkF m 192 #[rv b, iv ln] [(.int 3), (.ref b), (.int 3), (.ref x180), (.ref x180), (.ref x177), (.ref x177)])
    have V191 := J190.arv V188 (ninS (Nat.ne_of_lt (Nat.lt_of_lt_of_le (Nat.lt_of_lt_of_le A_b.lt J177.1.1) (Nat.le_of_eq g_x180.symm))) nin0)
    refine Own.Sit.caload hG S190 hx V191 ⟨by decide, by decide⟩ (own_get (i := 3) (by rw [hlen]; decide)) rfl rfl (hb hby own_d6_192) ?_
    obtain ⟨d192, ed192⟩ : ∃ z, z = cs.getD 3 0 := ⟨_, rfl⟩
    rw [← ed192]
    have rd192 : ¬ d192 < 0 ∧ ¬ (255 : Int32) < d192 := ed192 ▸ own_rg hr 3
    show G T190 (mkF m 193 #[rv b, iv ln] [(.int d192), (.int 3), (.ref x180), (.ref x180), (.ref x177), (.ref x177)])
    refine Own.Sit.stC hG S190 hx V190 ga_x180 ⟨by decide, by decide⟩ 3 rfl (Nat.le_of_ble_eq_true rfl) rfl rfl (hb hby own_d6_193) (fun T193 h193 S193 J193 (V193 : Arv Z h193 x180 k180 .char (5 : Int32) [(.int d183), (.int d186), (.int d189), (.int (nar .char d192)), (.int 0)] (.int 0)) => ?_)
    rw [own_nar rd192] at V193
    refine hG.st (fun t q => XS.dup S193.here hx rfl (hb hby own_d6_194) rfl rfl (XS.iconst S193.here hx rfl (hb hby own_d6_195) (XS.aloadN S193.here hx rfl (hb hby own_d6_196) rfl rfl (XS.iconst S193.here hx rfl (hb hby own_d6_197) q)))) ?_
    show G T193 (mkF m 198 #[rv b, iv ln] [(.int 4), (.ref b), (.int 4), (.ref x180), (.ref x180), (.ref x177), (.ref x177)])
    have V194 := J193.arv V191 (ninS (Nat.ne_of_lt (Nat.lt_of_lt_of_le (Nat.lt_of_lt_of_le A_b.lt J177.1.1) (Nat.le_of_eq g_x180.symm))) nin0)
    refine Own.Sit.caload hG S193 hx V194 ⟨by decide, by decide⟩ (own_get (i := 4) (by rw [hlen]; decide)) rfl rfl (hb hby own_d6_198) ?_
    obtain ⟨d195, ed195⟩ : ∃ z, z = cs.getD 4 0 := ⟨_, rfl⟩
    rw [← ed195]
    have rd195 : ¬ d195 < 0 ∧ ¬ (255 : Int32) < d195 := ed195 ▸ own_rg hr 4
    show G T193 (mkF m 199 #[rv b, iv ln] [(.int d195), (.int 4), (.ref x180), (.ref x180), (.ref x177), (.ref x177)])
    refine Own.Sit.stC hG S193 hx V193 ga_x180 ⟨by decide, by decide⟩ 4 rfl (Nat.le_of_ble_eq_true rfl) rfl rfl (hb hby own_d6_199) (fun T196 h196 S196 J196 (V196 : Arv Z h196 x180 k180 .char (5 : Int32) [(.int d183), (.int d186), (.int d189), (.int d192), (.int (nar .char d195))] (.int 0)) => ?_)
    rw [own_nar rd195] at V196
    have J197 : Own.Stp Z consts_1 vm0 h177 vm0 h184 [] := Own.Stp.trans J180 J184 (all0) (allS (Or.inr (Nat.le_of_eq g_x180.symm)) all0)
    have J198 : Own.Stp Z consts_1 vm0 h177 vm0 h187 [] := Own.Stp.trans J197 J187 (all0) (allS (Or.inr (Nat.le_of_eq g_x180.symm)) all0)
    have J199 : Own.Stp Z consts_1 vm0 h177 vm0 h190 [] := Own.Stp.trans J198 J190 (all0) (allS (Or.inr (Nat.le_of_eq g_x180.symm)) all0)
    have J200 : Own.Stp Z consts_1 vm0 h177 vm0 h193 [] := Own.Stp.trans J199 J193 (all0) (allS (Or.inr (Nat.le_of_eq g_x180.symm)) all0)
    have J201 : Own.Stp Z consts_1 vm0 h177 vm0 h196 [] := Own.Stp.trans J200 J196 (all0) (allS (Or.inr (Nat.le_of_eq g_x180.symm)) all0)
    have E202 := J201.exa E177
    have F203 := J201.fld F179 nin0
    have F204 := J201.fld F178 nin0
    have Sf205 := J201.safe lt_x177 Sf177
    have hp206 : ∀ c ∈ ([d183, d186, d189, d192, d195] : List Int32), ¬ c < 0 ∧ ¬ (255 : Int32) < c := by
      intro c hc
      simp only [List.mem_cons, List.not_mem_nil, or_false] at hc
      rcases hc with rfl | rfl | rfl | rfl | rfl
      · exact rd183
      · exact rd186
      · exact rd189
      · exact rd192
      · exact rd195
    show G T196 (mkF m 200 #[rv b, iv ln] [(.ref x180), (.ref x177), (.ref x177)])
    refine Own.Sit.newStr hG S196 hx hWs hCm (hW 6 _ rfl) (hW 8 _ rfl) (hW 9 _ rfl) (cs := ([d183, d186, d189, d192, d195] : List Int32)) ga_x177 Sf205 E202 F203 F204 V196 rfl (Nat.le_of_ble_eq_true rfl) (Nat.le_of_ble_eq_true rfl) hp206 (nn := 5) (Nat.le_of_ble_eq_true rfl) rfl (hz _ rfl) (rest := [(.ref x177)]) rfl (W := 1) (Own.hw0 rfl rfl) (hb hby own_d6_200) (by decide) (by decide) (by decide) (by decide) (fun T207 h207 y207 S207 J207 u207 St207 => ?_)
    have J208 : Own.Stp Z consts_1 vm0 h0 vm0 h184 [] := Own.Stp.trans J181 J184 (all0) (allS (Or.inr (Nat.le_trans J177.1.1 (Nat.le_of_eq g_x180.symm))) all0)
    have J209 : Own.Stp Z consts_1 vm0 h0 vm0 h187 [] := Own.Stp.trans J208 J187 (all0) (allS (Or.inr (Nat.le_trans J177.1.1 (Nat.le_of_eq g_x180.symm))) all0)
    have J210 : Own.Stp Z consts_1 vm0 h0 vm0 h190 [] := Own.Stp.trans J209 J190 (all0) (allS (Or.inr (Nat.le_trans J177.1.1 (Nat.le_of_eq g_x180.symm))) all0)
    have J211 : Own.Stp Z consts_1 vm0 h0 vm0 h193 [] := Own.Stp.trans J210 J193 (all0) (allS (Or.inr (Nat.le_trans J177.1.1 (Nat.le_of_eq g_x180.symm))) all0)
    have J212 : Own.Stp Z consts_1 vm0 h0 vm0 h196 [] := Own.Stp.trans J211 J196 (all0) (allS (Or.inr (Nat.le_trans J177.1.1 (Nat.le_of_eq g_x180.symm))) all0)
    have J213 : Own.Stp Z consts_1 vm0 h0 vm0 h207 [] := Own.Stp.trans J212 J207 (all0) (allS (Or.inr (Nat.le_of_eq g_x177.symm)) all0)
    show G T207 (mkF m 203 #[rv b, iv ln] [(.ref x177)])
    exact Own.Sit.retO hR S207 hx hret rfl (Or.inr (Or.inr (Or.inr (Or.inr ⟨rfl, rfl, rfl⟩)))) (hb hby own_d6_203) (by decide) (by decide) ⟨J213.1, x177, _, _, rfl, St207, (Nat.le_of_eq g_x177.symm)⟩
  by_cases hs1_6 : ln = (6 : Int32)
  ·
    refine hG.st (fun t q => XS.tswIn S0.here hx rfl (pc0 := 1) (pc' := 204) rfl (hb hby own_d6_1) rfl (by rw [hs1_6]; decide) (by rw [hs1_6]; rfl) (by decide) (by decide) q) ?_
    show G T0 (mkF m 204 #[rv b, iv ln] [])
    refine Own.Sit.newO hG S0 hx (hW 5 _ rfl) (hW 6 _ rfl) (hW 7 _ rfl) rfl (hb hby own_d6_204) (by decide) (by decide) (fun T214 h214 x214 g_x214 S214 J214 Sf214 E214 D214 => ?_)
    have lt_x214 := E214.lt
    have ga_x214 : Z.heap.size ≤ x214 := Nat.le_trans S0.le (Nat.le_of_eq g_x214.symm)
    have F215 : Fld Z h214 x214 "java/lang/String" "coder" "B" (.int 0) := D214 (Or.inr (hW 31 _ rfl)) (ty := .byte) (by decide)
    have F216 : Fld Z h214 x214 "java/lang/String" "value" "[B" .null := D214 (Or.inr (hW 33 _ rfl)) (ty := (.array .byte)) (by decide)
    refine hG.st (fun t q => XS.dup S214.here hx rfl (hb hby own_d6_207) rfl rfl (XS.bipush S214.here hx rfl (hb hby own_d6_208) q)) ?_
    show G T214 (mkF m 210 #[rv b, iv ln] [(.int 6), (.ref x214), (.ref x214)])
    refine Own.Sit.newP hG S214 hx (aty := .char) (hW 0 _ rfl) rfl (hb hby own_d6_210) rfl (by decide) (cap := 6) (by decide) (by decide) (by decide) (by decide) (fun T217 h217 x217 k217 g_x217 S217 J217 Sf217 (V217 : Arv Z h217 x217 k217 .char (6 : Int32) [(.int 0), (.int 0), (.int 0), (.int 0), (.int 0), (.int 0)] (.int 0)) => ?_)
    have lt_x217 := V217.lt
    have ga_x217 : Z.heap.size ≤ x217 := Nat.le_trans S214.le (Nat.le_of_eq g_x217.symm)
    refine hG.st (fun t q => XS.dup S217.here hx rfl (hb hby own_d6_212) rfl rfl (XS.iconst S217.here hx rfl (hb hby own_d6_213) (XS.aloadN S217.here hx rfl (hb hby own_d6_214) rfl rfl (XS.iconst S217.here hx rfl (hb hby own_d6_215) q)))) ?_
    show G T217 (mkF m 216 #[rv b, iv ln] [(.int 0), (.ref b), (.int 0), (.ref x217), (.ref x217), (.ref x214), (.ref x214)])
    have J218 : Own.Stp Z consts_1 vm0 h0 vm0 h217 [] := Own.Stp.trans J214 J217 (all0) all0
    have V219 := J218.arv A_b nin0
    refine Own.Sit.caload hG S217 hx V219 ⟨by decide, by decide⟩ (own_get (i := 0) (by rw [hlen]; decide)) rfl rfl (hb hby own_d6_216) ?_
    obtain ⟨d220, ed220⟩ : ∃ z, z = cs.getD 0 0 := ⟨_, rfl⟩
    rw [← ed220]
    have rd220 : ¬ d220 < 0 ∧ ¬ (255 : Int32) < d220 := ed220 ▸ own_rg hr 0
    show G T217 (mkF m 217 #[rv b, iv ln] [(.int d220), (.int 0), (.ref x217), (.ref x217), (.ref x214), (.ref x214)])
    refine Own.Sit.stC hG S217 hx V217 ga_x217 ⟨by decide, by decide⟩ 0 rfl (Nat.le_of_ble_eq_true rfl) rfl rfl (hb hby own_d6_217) (fun T221 h221 S221 J221 (V221 : Arv Z h221 x217 k217 .char (6 : Int32) [(.int (nar .char d220)), (.int 0), (.int 0), (.int 0), (.int 0), (.int 0)] (.int 0)) => ?_)
    rw [own_nar rd220] at V221
    refine hG.st (fun t q => XS.dup S221.here hx rfl (hb hby own_d6_218) rfl rfl (XS.iconst S221.here hx rfl (hb hby own_d6_219) (XS.aloadN S221.here hx rfl (hb hby own_d6_220) rfl rfl (XS.iconst S221.here hx rfl (hb hby own_d6_221) q)))) ?_
    show G T221 (mkF m 222 #[rv b, iv ln] [(.int 1), (.ref b), (.int 1), (.ref x217), (.ref x217), (.ref x214), (.ref x214)])
    have V222 := J221.arv V219 (ninS (Nat.ne_of_lt (Nat.lt_of_lt_of_le (Nat.lt_of_lt_of_le A_b.lt J214.1.1) (Nat.le_of_eq g_x217.symm))) nin0)
    refine Own.Sit.caload hG S221 hx V222 ⟨by decide, by decide⟩ (own_get (i := 1) (by rw [hlen]; decide)) rfl rfl (hb hby own_d6_222) ?_
    obtain ⟨d223, ed223⟩ : ∃ z, z = cs.getD 1 0 := ⟨_, rfl⟩
    rw [← ed223]
    have rd223 : ¬ d223 < 0 ∧ ¬ (255 : Int32) < d223 := ed223 ▸ own_rg hr 1
    show G T221 (mkF m 223 #[rv b, iv ln] [(.int d223), (.int 1), (.ref x217), (.ref x217), (.ref x214), (.ref x214)])
    refine Own.Sit.stC hG S221 hx V221 ga_x217 ⟨by decide, by decide⟩ 1 rfl (Nat.le_of_ble_eq_true rfl) rfl rfl (hb hby own_d6_223) (fun T224 h224 S224 J224 (V224 : Arv Z h224 x217 k217 .char (6 : Int32) [(.int d220), (.int (nar .char d223)), (.int 0), (.int 0), (.int 0), (.int 0)] (.int 0)) => ?_)
    rw [own_nar rd223] at V224
    refine hG.st (fun t q => XS.dup S224.here hx rfl (hb hby own_d6_224) rfl rfl (XS.iconst S224.here hx rfl (hb hby own_d6_225) (XS.aloadN S224.here hx rfl (hb hby own_d6_226) rfl rfl (XS.iconst S224.here hx rfl (hb hby own_d6_227) q)))) ?_
    show G T224 (mkF m 228 #[rv b, iv ln] [(.int 2), (.ref b), (.int 2), (.ref x217), (.ref x217), (.ref x214), (.ref x214)])
    have V225 := J224.arv V222 (ninS (Nat.ne_of_lt (Nat.lt_of_lt_of_le (Nat.lt_of_lt_of_le A_b.lt J214.1.1) (Nat.le_of_eq g_x217.symm))) nin0)
    refine Own.Sit.caload hG S224 hx V225 ⟨by decide, by decide⟩ (own_get (i := 2) (by rw [hlen]; decide)) rfl rfl (hb hby own_d6_228) ?_
    obtain ⟨d226, ed226⟩ : ∃ z, z = cs.getD 2 0 := ⟨_, rfl⟩
    rw [← ed226]
    have rd226 : ¬ d226 < 0 ∧ ¬ (255 : Int32) < d226 := ed226 ▸ own_rg hr 2
    show G T224 (mkF m 229 #[rv b, iv ln] [(.int d226), (.int 2), (.ref x217), (.ref x217), (.ref x214), (.ref x214)])
    refine Own.Sit.stC hG S224 hx V224 ga_x217 ⟨by decide, by decide⟩ 2 rfl (Nat.le_of_ble_eq_true rfl) rfl rfl (hb hby own_d6_229) (fun T227 h227 S227 J227 (V227 : Arv Z h227 x217 k217 .char (6 : Int32) [(.int d220), (.int d223), (.int (nar .char d226)), (.int 0), (.int 0), (.int 0)] (.int 0)) => ?_)
    rw [own_nar rd226] at V227
    refine hG.st (fun t q => XS.dup S227.here hx rfl (hb hby own_d6_230) rfl rfl (XS.iconst S227.here hx rfl (hb hby own_d6_231) (XS.aloadN S227.here hx rfl (hb hby own_d6_232) rfl rfl (XS.iconst S227.here hx rfl (hb hby own_d6_233) q)))) ?_
    show G T227 (mkF m 234 #[rv b, iv ln] [(.int 3), (.ref b), (.int 3), (.ref x217), (.ref x217), (.ref x214), (.ref x214)])
    have V228 := J227.arv V225 (ninS (Nat.ne_of_lt (Nat.lt_of_lt_of_le (Nat.lt_of_lt_of_le A_b.lt J214.1.1) (Nat.le_of_eq g_x217.symm))) nin0)
    refine Own.Sit.caload hG S227 hx V228 ⟨by decide, by decide⟩ (own_get (i := 3) (by rw [hlen]; decide)) rfl rfl (hb hby own_d6_234) ?_
    obtain ⟨d229, ed229⟩ : ∃ z, z = cs.getD 3 0 := ⟨_, rfl⟩
    rw [← ed229]
    have rd229 : ¬ d229 < 0 ∧ ¬ (255 : Int32) < d229 := ed229 ▸ own_rg hr 3
    show G T227 (mkF m 235 #[rv b, iv ln] [(.int d229), (.int 3), (.ref x217), (.ref x217), (.ref x214), (.ref x214)])
    refine Own.Sit.stC hG S227 hx V227 ga_x217 ⟨by decide, by decide⟩ 3 rfl (Nat.le_of_ble_eq_true rfl) rfl rfl (hb hby own_d6_235) (fun T230 h230 S230 J230 (V230 : Arv Z h230 x217 k217 .char (6 : Int32) [(.int d220), (.int d223), (.int d226), (.int (nar .char d229)), (.int 0), (.int 0)] (.int 0)) => ?_)
    rw [own_nar rd229] at V230
    refine hG.st (fun t q => XS.dup S230.here hx rfl (hb hby own_d6_236) rfl rfl (XS.iconst S230.here hx rfl (hb hby own_d6_237) (XS.aloadN S230.here hx rfl (hb hby own_d6_238) rfl rfl (XS.iconst S230.here hx rfl (hb hby own_d6_239) q)))) ?_
    show G T230 (mkF m 240 #[rv b, iv ln] [(.int 4), (.ref b), (.int 4), (.ref x217), (.ref x217), (.ref x214), (.ref x214)])
    have V231 := J230.arv V228 (ninS (Nat.ne_of_lt (Nat.lt_of_lt_of_le (Nat.lt_of_lt_of_le A_b.lt J214.1.1) (Nat.le_of_eq g_x217.symm))) nin0)
    refine Own.Sit.caload hG S230 hx V231 ⟨by decide, by decide⟩ (own_get (i := 4) (by rw [hlen]; decide)) rfl rfl (hb hby own_d6_240) ?_
    obtain ⟨d232, ed232⟩ : ∃ z, z = cs.getD 4 0 := ⟨_, rfl⟩
    rw [← ed232]
    have rd232 : ¬ d232 < 0 ∧ ¬ (255 : Int32) < d232 := ed232 ▸ own_rg hr 4
    show G T230 (mkF m 241 #[rv b, iv ln] [(.int d232), (.int 4), (.ref x217), (.ref x217), (.ref x214), (.ref x214)])
    refine Own.Sit.stC hG S230 hx V230 ga_x217 ⟨by decide, by decide⟩ 4 rfl (Nat.le_of_ble_eq_true rfl) rfl rfl (hb hby own_d6_241) (fun T233 h233 S233 J233 (V233 : Arv Z h233 x217 k217 .char (6 : Int32) [(.int d220), (.int d223), (.int d226), (.int d229), (.int (nar .char d232)), (.int 0)] (.int 0)) => ?_)
    rw [own_nar rd232] at V233
    refine hG.st (fun t q => XS.dup S233.here hx rfl (hb hby own_d6_242) rfl rfl (XS.iconst S233.here hx rfl (hb hby own_d6_243) (XS.aloadN S233.here hx rfl (hb hby own_d6_244) rfl rfl (XS.iconst S233.here hx rfl (hb hby own_d6_245) q)))) ?_
    show G T233 (mkF m 246 #[rv b, iv ln] [(.int 5), (.ref b), (.int 5), (.ref x217), (.ref x217), (.ref x214), (.ref x214)])
    have V234 := J233.arv V231 (ninS (Nat.ne_of_lt (Nat.lt_of_lt_of_le (Nat.lt_of_lt_of_le A_b.lt J214.1.1) (Nat.le_of_eq g_x217.symm))) nin0)
    refine Own.Sit.caload hG S233 hx V234 ⟨by decide, by decide⟩ (own_get (i := 5) (by rw [hlen]; decide)) rfl rfl (hb hby own_d6_246) ?_
    obtain ⟨d235, ed235⟩ : ∃ z, z = cs.getD 5 0 := ⟨_, rfl⟩
    rw [← ed235]
    have rd235 : ¬ d235 < 0 ∧ ¬ (255 : Int32) < d235 := ed235 ▸ own_rg hr 5
    show G T233 (mkF m 247 #[rv b, iv ln] [(.int d235), (.int 5), (.ref x217), (.ref x217), (.ref x214), (.ref x214)])
    refine Own.Sit.stC hG S233 hx V233 ga_x217 ⟨by decide, by decide⟩ 5 rfl (Nat.le_of_ble_eq_true rfl) rfl rfl (hb hby own_d6_247) (fun T236 h236 S236 J236 (V236 : Arv Z h236 x217 k217 .char (6 : Int32) [(.int d220), (.int d223), (.int d226), (.int d229), (.int d232), (.int (nar .char d235))] (.int 0)) => ?_)
    rw [own_nar rd235] at V236
    have J237 : Own.Stp Z consts_1 vm0 h214 vm0 h221 [] := Own.Stp.trans J217 J221 (all0) (allS (Or.inr (Nat.le_of_eq g_x217.symm)) all0)
    have J238 : Own.Stp Z consts_1 vm0 h214 vm0 h224 [] := Own.Stp.trans J237 J224 (all0) (allS (Or.inr (Nat.le_of_eq g_x217.symm)) all0)
    have J239 : Own.Stp Z consts_1 vm0 h214 vm0 h227 [] := Own.Stp.trans J238 J227 (all0) (allS (Or.inr (Nat.le_of_eq g_x217.symm)) all0)
    have J240 : Own.Stp Z consts_1 vm0 h214 vm0 h230 [] := Own.Stp.trans J239 J230 (all0) (allS (Or.inr (Nat.le_of_eq g_x217.symm)) all0)
    have J241 : Own.Stp Z consts_1 vm0 h214 vm0 h233 [] := Own.Stp.trans J240 J233 (all0) (allS (Or.inr (Nat.le_of_eq g_x217.symm)) all0)
    have J242 : Own.Stp Z consts_1 vm0 h214 vm0 h236 [] := Own.Stp.trans J241 J236 (all0) (allS (Or.inr (Nat.le_of_eq g_x217.symm)) all0)
    have E243 := J242.exa E214
    have F244 := J242.fld F216 nin0
    have F245 := J242.fld F215 nin0
    have Sf246 := J242.safe lt_x214 Sf214
    have hp247 : ∀ c ∈ ([d220, d223, d226, d229, d232, d235] : List Int32), ¬ c < 0 ∧ ¬ (255 : Int32) < c := by
      intro c hc
      simp only [List.mem_cons, List.not_mem_nil, or_false] at hc
      rcases hc with rfl | rfl | rfl | rfl | rfl | rfl
      · exact rd220
      · exact rd223
      · exact rd226
      · exact rd229
      · exact rd232
      · exact rd235
    show G T236 (mkF m 248 #[rv b, iv ln] [(.ref x217), (.ref x214), (.ref x214)])
    refine Own.Sit.newStr hG S236 hx hWs hCm (hW 6 _ rfl) (hW 8 _ rfl) (hW 9 _ rfl) (cs := ([d220, d223, d226, d229, d232, d235] : List Int32)) ga_x214 Sf246 E243 F244 F245 V236 rfl (Nat.le_of_ble_eq_true rfl) (Nat.le_of_ble_eq_true rfl) hp247 (nn := 6) (Nat.le_of_ble_eq_true rfl) rfl (hz _ rfl) (rest := [(.ref x214)]) rfl (W := 1) (Own.hw0 rfl rfl) (hb hby own_d6_248) (by decide) (by decide) (by decide) (by decide) (fun T248 h248 y248 S248 J248 u248 St248 => ?_)
    have J249 : Own.Stp Z consts_1 vm0 h0 vm0 h221 [] := Own.Stp.trans J218 J221 (all0) (allS (Or.inr (Nat.le_trans J214.1.1 (Nat.le_of_eq g_x217.symm))) all0)
    have J250 : Own.Stp Z consts_1 vm0 h0 vm0 h224 [] := Own.Stp.trans J249 J224 (all0) (allS (Or.inr (Nat.le_trans J214.1.1 (Nat.le_of_eq g_x217.symm))) all0)
    have J251 : Own.Stp Z consts_1 vm0 h0 vm0 h227 [] := Own.Stp.trans J250 J227 (all0) (allS (Or.inr (Nat.le_trans J214.1.1 (Nat.le_of_eq g_x217.symm))) all0)
    have J252 : Own.Stp Z consts_1 vm0 h0 vm0 h230 [] := Own.Stp.trans J251 J230 (all0) (allS (Or.inr (Nat.le_trans J214.1.1 (Nat.le_of_eq g_x217.symm))) all0)
    have J253 : Own.Stp Z consts_1 vm0 h0 vm0 h233 [] := Own.Stp.trans J252 J233 (all0) (allS (Or.inr (Nat.le_trans J214.1.1 (Nat.le_of_eq g_x217.symm))) all0)
    have J254 : Own.Stp Z consts_1 vm0 h0 vm0 h236 [] := Own.Stp.trans J253 J236 (all0) (allS (Or.inr (Nat.le_trans J214.1.1 (Nat.le_of_eq g_x217.symm))) all0)
    have J255 : Own.Stp Z consts_1 vm0 h0 vm0 h248 [] := Own.Stp.trans J254 J248 (all0) (allS (Or.inr (Nat.le_of_eq g_x214.symm)) all0)
    show G T248 (mkF m 251 #[rv b, iv ln] [(.ref x214)])
    exact Own.Sit.retO hR S248 hx hret rfl (Or.inr (Or.inr (Or.inr (Or.inr ⟨rfl, rfl, rfl⟩)))) (hb hby own_d6_251) (by decide) (by decide) ⟨J255.1, x214, _, _, rfl, St248, (Nat.le_of_eq g_x214.symm)⟩
  by_cases hs1_7 : ln = (7 : Int32)
  ·
    refine hG.st (fun t q => XS.tswIn S0.here hx rfl (pc0 := 1) (pc' := 252) rfl (hb hby own_d6_1) rfl (by rw [hs1_7]; decide) (by rw [hs1_7]; rfl) (by decide) (by decide) q) ?_
    show G T0 (mkF m 252 #[rv b, iv ln] [])
    refine Own.Sit.newO hG S0 hx (hW 5 _ rfl) (hW 6 _ rfl) (hW 7 _ rfl) rfl (hb hby own_d6_252) (by decide) (by decide) (fun T256 h256 x256 g_x256 S256 J256 Sf256 E256 D256 => ?_)
    have lt_x256 := E256.lt
    have ga_x256 : Z.heap.size ≤ x256 := Nat.le_trans S0.le (Nat.le_of_eq g_x256.symm)
    have F257 : Fld Z h256 x256 "java/lang/String" "coder" "B" (.int 0) := D256 (Or.inr (hW 31 _ rfl)) (ty := .byte) (by decide)
    have F258 : Fld Z h256 x256 "java/lang/String" "value" "[B" .null := D256 (Or.inr (hW 33 _ rfl)) (ty := (.array .byte)) (by decide)
    refine hG.st (fun t q => XS.dup S256.here hx rfl (hb hby own_d6_255) rfl rfl (XS.bipush S256.here hx rfl (hb hby own_d6_256) q)) ?_
    show G T256 (mkF m 258 #[rv b, iv ln] [(.int 7), (.ref x256), (.ref x256)])
    refine Own.Sit.newP hG S256 hx (aty := .char) (hW 0 _ rfl) rfl (hb hby own_d6_258) rfl (by decide) (cap := 7) (by decide) (by decide) (by decide) (by decide) (fun T259 h259 x259 k259 g_x259 S259 J259 Sf259 (V259 : Arv Z h259 x259 k259 .char (7 : Int32) [(.int 0), (.int 0), (.int 0), (.int 0), (.int 0), (.int 0), (.int 0)] (.int 0)) => ?_)
    have lt_x259 := V259.lt
    have ga_x259 : Z.heap.size ≤ x259 := Nat.le_trans S256.le (Nat.le_of_eq g_x259.symm)
    refine hG.st (fun t q => XS.dup S259.here hx rfl (hb hby own_d6_260) rfl rfl (XS.iconst S259.here hx rfl (hb hby own_d6_261) (XS.aloadN S259.here hx rfl (hb hby own_d6_262) rfl rfl (XS.iconst S259.here hx rfl (hb hby own_d6_263) q)))) ?_
    show G T259 (mkF m 264 #[rv b, iv ln] [(.int 0), (.ref b), (.int 0), (.ref x259), (.ref x259), (.ref x256), (.ref x256)])
    have J260 : Own.Stp Z consts_1 vm0 h0 vm0 h259 [] := Own.Stp.trans J256 J259 (all0) all0
    have V261 := J260.arv A_b nin0
    refine Own.Sit.caload hG S259 hx V261 ⟨by decide, by decide⟩ (own_get (i := 0) (by rw [hlen]; decide)) rfl rfl (hb hby own_d6_264) ?_
    obtain ⟨d262, ed262⟩ : ∃ z, z = cs.getD 0 0 := ⟨_, rfl⟩
    rw [← ed262]
    have rd262 : ¬ d262 < 0 ∧ ¬ (255 : Int32) < d262 := ed262 ▸ own_rg hr 0
    show G T259 (mkF m 265 #[rv b, iv ln] [(.int d262), (.int 0), (.ref x259), (.ref x259), (.ref x256), (.ref x256)])
    refine Own.Sit.stC hG S259 hx V259 ga_x259 ⟨by decide, by decide⟩ 0 rfl (Nat.le_of_ble_eq_true rfl) rfl rfl (hb hby own_d6_265) (fun T263 h263 S263 J263 (V263 : Arv Z h263 x259 k259 .char (7 : Int32) [(.int (nar .char d262)), (.int 0), (.int 0), (.int 0), (.int 0), (.int 0), (.int 0)] (.int 0)) => ?_)
    rw [own_nar rd262] at V263
    refine hG.st (fun t q => XS.dup S263.here hx rfl (hb hby own_d6_266) rfl rfl (XS.iconst S263.here hx rfl (hb hby own_d6_267) (XS.aloadN S263.here hx rfl (hb hby own_d6_268) rfl rfl (XS.iconst S263.here hx rfl (hb hby own_d6_269) q)))) ?_
    show G T263 (mkF m 270 #[rv b, iv ln] [(.int 1), (.ref b), (.int 1), (.ref x259), (.ref x259), (.ref x256), (.ref x256)])
    have V264 := J263.arv V261 (ninS (Nat.ne_of_lt (Nat.lt_of_lt_of_le (Nat.lt_of_lt_of_le A_b.lt J256.1.1) (Nat.le_of_eq g_x259.symm))) nin0)
    refine Own.Sit.caload hG S263 hx V264 ⟨by decide, by decide⟩ (own_get (i := 1) (by rw [hlen]; decide)) rfl rfl (hb hby own_d6_270) ?_
    obtain ⟨d265, ed265⟩ : ∃ z, z = cs.getD 1 0 := ⟨_, rfl⟩
    rw [← ed265]
    have rd265 : ¬ d265 < 0 ∧ ¬ (255 : Int32) < d265 := ed265 ▸ own_rg hr 1
    show G T263 (mkF m 271 #[rv b, iv ln] [(.int d265), (.int 1), (.ref x259), (.ref x259), (.ref x256), (.ref x256)])
    refine Own.Sit.stC hG S263 hx V263 ga_x259 ⟨by decide, by decide⟩ 1 rfl (Nat.le_of_ble_eq_true rfl) rfl rfl (hb hby own_d6_271) (fun T266 h266 S266 J266 (V266 : Arv Z h266 x259 k259 .char (7 : Int32) [(.int d262), (.int (nar .char d265)), (.int 0), (.int 0), (.int 0), (.int 0), (.int 0)] (.int 0)) => ?_)
    rw [own_nar rd265] at V266
    refine hG.st (fun t q => XS.dup S266.here hx rfl (hb hby own_d6_272) rfl rfl (XS.iconst S266.here hx rfl (hb hby own_d6_273) (XS.aloadN S266.here hx rfl (hb hby own_d6_274) rfl rfl (XS.iconst S266.here hx rfl (hb hby own_d6_275) q)))) ?_
    show G T266 (mkF m 276 #[rv b, iv ln] [(.int 2), (.ref b), (.int 2), (.ref x259), (.ref x259), (.ref x256), (.ref x256)])
    have V267 := J266.arv V264 (ninS (Nat.ne_of_lt (Nat.lt_of_lt_of_le (Nat.lt_of_lt_of_le A_b.lt J256.1.1) (Nat.le_of_eq g_x259.symm))) nin0)
    refine Own.Sit.caload hG S266 hx V267 ⟨by decide, by decide⟩ (own_get (i := 2) (by rw [hlen]; decide)) rfl rfl (hb hby own_d6_276) ?_
    obtain ⟨d268, ed268⟩ : ∃ z, z = cs.getD 2 0 := ⟨_, rfl⟩
    rw [← ed268]
    have rd268 : ¬ d268 < 0 ∧ ¬ (255 : Int32) < d268 := ed268 ▸ own_rg hr 2
    show G T266 (mkF m 277 #[rv b, iv ln] [(.int d268), (.int 2), (.ref x259), (.ref x259), (.ref x256), (.ref x256)])
    refine Own.Sit.stC hG S266 hx V266 ga_x259 ⟨by decide, by decide⟩ 2 rfl (Nat.le_of_ble_eq_true rfl) rfl rfl (hb hby own_d6_277) (fun T269 h269 S269 J269 (V269 : Arv Z h269 x259 k259 .char (7 : Int32) [(.int d262), (.int d265), (.int (nar .char d268)), (.int 0), (.int 0), (.int 0), (.int 0)] (.int 0)) => ?_)
    rw [own_nar rd268] at V269
    refine hG.st (fun t q => XS.dup S269.here hx rfl (hb hby own_d6_278) rfl rfl (XS.iconst S269.here hx rfl (hb hby own_d6_279) (XS.aloadN S269.here hx rfl (hb hby own_d6_280) rfl rfl (XS.iconst S269.here hx rfl (hb hby own_d6_281) q)))) ?_
    show G T269 (mkF m 282 #[rv b, iv ln] [(.int 3), (.ref b), (.int 3), (.ref x259), (.ref x259), (.ref x256), (.ref x256)])
    have V270 := J269.arv V267 (ninS (Nat.ne_of_lt (Nat.lt_of_lt_of_le (Nat.lt_of_lt_of_le A_b.lt J256.1.1) (Nat.le_of_eq g_x259.symm))) nin0)
    refine Own.Sit.caload hG S269 hx V270 ⟨by decide, by decide⟩ (own_get (i := 3) (by rw [hlen]; decide)) rfl rfl (hb hby own_d6_282) ?_
    obtain ⟨d271, ed271⟩ : ∃ z, z = cs.getD 3 0 := ⟨_, rfl⟩
    rw [← ed271]
    have rd271 : ¬ d271 < 0 ∧ ¬ (255 : Int32) < d271 := ed271 ▸ own_rg hr 3
    show G T269 (mkF m 283 #[rv b, iv ln] [(.int d271), (.int 3), (.ref x259), (.ref x259), (.ref x256), (.ref x256)])
    refine Own.Sit.stC hG S269 hx V269 ga_x259 ⟨by decide, by decide⟩ 3 rfl (Nat.le_of_ble_eq_true rfl) rfl rfl (hb hby own_d6_283) (fun T272 h272 S272 J272 (V272 : Arv Z h272 x259 k259 .char (7 : Int32) [(.int d262), (.int d265), (.int d268), (.int (nar .char d271)), (.int 0), (.int 0), (.int 0)] (.int 0)) => ?_)
    rw [own_nar rd271] at V272
    refine hG.st (fun t q => XS.dup S272.here hx rfl (hb hby own_d6_284) rfl rfl (XS.iconst S272.here hx rfl (hb hby own_d6_285) (XS.aloadN S272.here hx rfl (hb hby own_d6_286) rfl rfl (XS.iconst S272.here hx rfl (hb hby own_d6_287) q)))) ?_
    show G T272 (mkF m 288 #[rv b, iv ln] [(.int 4), (.ref b), (.int 4), (.ref x259), (.ref x259), (.ref x256), (.ref x256)])
    have V273 := J272.arv V270 (ninS (Nat.ne_of_lt (Nat.lt_of_lt_of_le (Nat.lt_of_lt_of_le A_b.lt J256.1.1) (Nat.le_of_eq g_x259.symm))) nin0)
    refine Own.Sit.caload hG S272 hx V273 ⟨by decide, by decide⟩ (own_get (i := 4) (by rw [hlen]; decide)) rfl rfl (hb hby own_d6_288) ?_
    obtain ⟨d274, ed274⟩ : ∃ z, z = cs.getD 4 0 := ⟨_, rfl⟩
    rw [← ed274]
    have rd274 : ¬ d274 < 0 ∧ ¬ (255 : Int32) < d274 := ed274 ▸ own_rg hr 4
    show G T272 (mkF m 289 #[rv b, iv ln] [(.int d274), (.int 4), (.ref x259), (.ref x259), (.ref x256), (.ref x256)])
    refine Own.Sit.stC hG S272 hx V272 ga_x259 ⟨by decide, by decide⟩ 4 rfl (Nat.le_of_ble_eq_true rfl) rfl rfl (hb hby own_d6_289) (fun T275 h275 S275 J275 (V275 : Arv Z h275 x259 k259 .char (7 : Int32) [(.int d262), (.int d265), (.int d268), (.int d271), (.int (nar .char d274)), (.int 0), (.int 0)] (.int 0)) => ?_)
    rw [own_nar rd274] at V275
    refine hG.st (fun t q => XS.dup S275.here hx rfl (hb hby own_d6_290) rfl rfl (XS.iconst S275.here hx rfl (hb hby own_d6_291) (XS.aloadN S275.here hx rfl (hb hby own_d6_292) rfl rfl (XS.iconst S275.here hx rfl (hb hby own_d6_293) q)))) ?_
    show G T275 (mkF m 294 #[rv b, iv ln] [(.int 5), (.ref b), (.int 5), (.ref x259), (.ref x259), (.ref x256), (.ref x256)])
    have V276 := J275.arv V273 (ninS (Nat.ne_of_lt (Nat.lt_of_lt_of_le (Nat.lt_of_lt_of_le A_b.lt J256.1.1) (Nat.le_of_eq g_x259.symm))) nin0)
    refine Own.Sit.caload hG S275 hx V276 ⟨by decide, by decide⟩ (own_get (i := 5) (by rw [hlen]; decide)) rfl rfl (hb hby own_d6_294) ?_
    obtain ⟨d277, ed277⟩ : ∃ z, z = cs.getD 5 0 := ⟨_, rfl⟩
    rw [← ed277]
    have rd277 : ¬ d277 < 0 ∧ ¬ (255 : Int32) < d277 := ed277 ▸ own_rg hr 5
    show G T275 (mkF m 295 #[rv b, iv ln] [(.int d277), (.int 5), (.ref x259), (.ref x259), (.ref x256), (.ref x256)])
    refine Own.Sit.stC hG S275 hx V275 ga_x259 ⟨by decide, by decide⟩ 5 rfl (Nat.le_of_ble_eq_true rfl) rfl rfl (hb hby own_d6_295) (fun T278 h278 S278 J278 (V278 : Arv Z h278 x259 k259 .char (7 : Int32) [(.int d262), (.int d265), (.int d268), (.int d271), (.int d274), (.int (nar .char d277)), (.int 0)] (.int 0)) => ?_)
    rw [own_nar rd277] at V278
    refine hG.st (fun t q => XS.dup S278.here hx rfl (hb hby own_d6_296) rfl rfl (XS.bipush S278.here hx rfl (hb hby own_d6_297) (XS.aloadN S278.here hx rfl (hb hby own_d6_299) rfl rfl (XS.bipush S278.here hx rfl (hb hby own_d6_300) q)))) ?_
    show G T278 (mkF m 302 #[rv b, iv ln] [(.int 6), (.ref b), (.int 6), (.ref x259), (.ref x259), (.ref x256), (.ref x256)])
    have V279 := J278.arv V276 (ninS (Nat.ne_of_lt (Nat.lt_of_lt_of_le (Nat.lt_of_lt_of_le A_b.lt J256.1.1) (Nat.le_of_eq g_x259.symm))) nin0)
    refine Own.Sit.caload hG S278 hx V279 ⟨by decide, by decide⟩ (own_get (i := 6) (by rw [hlen]; decide)) rfl rfl (hb hby own_d6_302) ?_
    obtain ⟨d280, ed280⟩ : ∃ z, z = cs.getD 6 0 := ⟨_, rfl⟩
    rw [← ed280]
    have rd280 : ¬ d280 < 0 ∧ ¬ (255 : Int32) < d280 := ed280 ▸ own_rg hr 6
    show G T278 (mkF m 303 #[rv b, iv ln] [(.int d280), (.int 6), (.ref x259), (.ref x259), (.ref x256), (.ref x256)])
    refine Own.Sit.stC hG S278 hx V278 ga_x259 ⟨by decide, by decide⟩ 6 rfl (Nat.le_of_ble_eq_true rfl) rfl rfl (hb hby own_d6_303) (fun T281 h281 S281 J281 (V281 : Arv Z h281 x259 k259 .char (7 : Int32) [(.int d262), (.int d265), (.int d268), (.int d271), (.int d274), (.int d277), (.int (nar .char d280))] (.int 0)) => ?_)
    rw [own_nar rd280] at V281
    have J282 : Own.Stp Z consts_1 vm0 h256 vm0 h263 [] := Own.Stp.trans J259 J263 (all0) (allS (Or.inr (Nat.le_of_eq g_x259.symm)) all0)
    have J283 : Own.Stp Z consts_1 vm0 h256 vm0 h266 [] := Own.Stp.trans J282 J266 (all0) (allS (Or.inr (Nat.le_of_eq g_x259.symm)) all0)
    have J284 : Own.Stp Z consts_1 vm0 h256 vm0 h269 [] := Own.Stp.trans J283 J269 (all0) (allS (Or.inr (Nat.le_of_eq g_x259.symm)) all0)
    have J285 : Own.Stp Z consts_1 vm0 h256 vm0 h272 [] := Own.Stp.trans J284 J272 (all0) (allS (Or.inr (Nat.le_of_eq g_x259.symm)) all0)
    have J286 : Own.Stp Z consts_1 vm0 h256 vm0 h275 [] := Own.Stp.trans J285 J275 (all0) (allS (Or.inr (Nat.le_of_eq g_x259.symm)) all0)
    have J287 : Own.Stp Z consts_1 vm0 h256 vm0 h278 [] := Own.Stp.trans J286 J278 (all0) (allS (Or.inr (Nat.le_of_eq g_x259.symm)) all0)
    have J288 : Own.Stp Z consts_1 vm0 h256 vm0 h281 [] := Own.Stp.trans J287 J281 (all0) (allS (Or.inr (Nat.le_of_eq g_x259.symm)) all0)
    have E289 := J288.exa E256
    have F290 := J288.fld F258 nin0
    have F291 := J288.fld F257 nin0
    have Sf292 := J288.safe lt_x256 Sf256
    have hp293 : ∀ c ∈ ([d262, d265, d268, d271, d274, d277, d280] : List Int32), ¬ c < 0 ∧ ¬ (255 : Int32) < c := by
      intro c hc
      simp only [List.mem_cons, List.not_mem_nil, or_false] at hc
      rcases hc with rfl | rfl | rfl | rfl | rfl | rfl | rfl
      · exact rd262
      · exact rd265
      · exact rd268
      · exact rd271
      · exact rd274
      · exact rd277
      · exact rd280
    show G T281 (mkF m 304 #[rv b, iv ln] [(.ref x259), (.ref x256), (.ref x256)])
    refine Own.Sit.newStr hG S281 hx hWs hCm (hW 6 _ rfl) (hW 8 _ rfl) (hW 9 _ rfl) (cs := ([d262, d265, d268, d271, d274, d277, d280] : List Int32)) ga_x256 Sf292 E289 F290 F291 V281 rfl (Nat.le_of_ble_eq_true rfl) (Nat.le_of_ble_eq_true rfl) hp293 (nn := 7) (Nat.le_of_ble_eq_true rfl) rfl (hz _ rfl) (rest := [(.ref x256)]) rfl (W := 1) (Own.hw0 rfl rfl) (hb hby own_d6_304) (by decide) (by decide) (by decide) (by decide) (fun T294 h294 y294 S294 J294 u294 St294 => ?_)
    have J295 : Own.Stp Z consts_1 vm0 h0 vm0 h263 [] := Own.Stp.trans J260 J263 (all0) (allS (Or.inr (Nat.le_trans J256.1.1 (Nat.le_of_eq g_x259.symm))) all0)
    have J296 : Own.Stp Z consts_1 vm0 h0 vm0 h266 [] := Own.Stp.trans J295 J266 (all0) (allS (Or.inr (Nat.le_trans J256.1.1 (Nat.le_of_eq g_x259.symm))) all0)
    have J297 : Own.Stp Z consts_1 vm0 h0 vm0 h269 [] := Own.Stp.trans J296 J269 (all0) (allS (Or.inr (Nat.le_trans J256.1.1 (Nat.le_of_eq g_x259.symm))) all0)
    have J298 : Own.Stp Z consts_1 vm0 h0 vm0 h272 [] := Own.Stp.trans J297 J272 (all0) (allS (Or.inr (Nat.le_trans J256.1.1 (Nat.le_of_eq g_x259.symm))) all0)
    have J299 : Own.Stp Z consts_1 vm0 h0 vm0 h275 [] := Own.Stp.trans J298 J275 (all0) (allS (Or.inr (Nat.le_trans J256.1.1 (Nat.le_of_eq g_x259.symm))) all0)
    have J300 : Own.Stp Z consts_1 vm0 h0 vm0 h278 [] := Own.Stp.trans J299 J278 (all0) (allS (Or.inr (Nat.le_trans J256.1.1 (Nat.le_of_eq g_x259.symm))) all0)
    have J301 : Own.Stp Z consts_1 vm0 h0 vm0 h281 [] := Own.Stp.trans J300 J281 (all0) (allS (Or.inr (Nat.le_trans J256.1.1 (Nat.le_of_eq g_x259.symm))) all0)
    have J302 : Own.Stp Z consts_1 vm0 h0 vm0 h294 [] := Own.Stp.trans J301 J294 (all0) (allS (Or.inr (Nat.le_of_eq g_x256.symm)) all0)
    show G T294 (mkF m 307 #[rv b, iv ln] [(.ref x256)])
    exact Own.Sit.retO hR S294 hx hret rfl (Or.inr (Or.inr (Or.inr (Or.inr ⟨rfl, rfl, rfl⟩)))) (hb hby own_d6_307) (by decide) (by decide) ⟨J302.1, x256, _, _, rfl, St294, (Nat.le_of_eq g_x256.symm)⟩
  have ho1 : ln.toInt < 0 ∨ ln.toInt > 7 := by
    have e0 : ¬ ln.toInt = 0 := fun q => hs1_0 (Int32.toInt_inj.mp q)
    have e1 : ¬ ln.toInt = 1 := fun q => hs1_1 (Int32.toInt_inj.mp q)
    have e2 : ¬ ln.toInt = 2 := fun q => hs1_2 (Int32.toInt_inj.mp q)
    have e3 : ¬ ln.toInt = 3 := fun q => hs1_3 (Int32.toInt_inj.mp q)
    have e4 : ¬ ln.toInt = 4 := fun q => hs1_4 (Int32.toInt_inj.mp q)
    have e5 : ¬ ln.toInt = 5 := fun q => hs1_5 (Int32.toInt_inj.mp q)
    have e6 : ¬ ln.toInt = 6 := fun q => hs1_6 (Int32.toInt_inj.mp q)
    have e7 : ¬ ln.toInt = 7 := fun q => hs1_7 (Int32.toInt_inj.mp q)
    omega
  refine hG.st (fun t q => XS.tswOut S0.here hx rfl (pc0 := 1) (pc' := 308) rfl (hb hby own_d6_1) rfl ho1 (by decide) (by decide) q) ?_
  show G T0 (mkF m 308 #[rv b, iv ln] [])
  refine Own.Sit.newO hG S0 hx (hW 5 _ rfl) (hW 6 _ rfl) (hW 7 _ rfl) rfl (hb hby own_d6_308) (by decide) (by decide) (fun T303 h303 x303 g_x303 S303 J303 Sf303 E303 D303 => ?_)
  have lt_x303 := E303.lt
  have ga_x303 : Z.heap.size ≤ x303 := Nat.le_trans S0.le (Nat.le_of_eq g_x303.symm)
  have F304 : Fld Z h303 x303 "java/lang/String" "coder" "B" (.int 0) := D303 (Or.inr (hW 31 _ rfl)) (ty := .byte) (by decide)
  have F305 : Fld Z h303 x303 "java/lang/String" "value" "[B" .null := D303 (Or.inr (hW 33 _ rfl)) (ty := (.array .byte)) (by decide)
  refine hG.st (fun t q => XS.dup S303.here hx rfl (hb hby own_d6_311) rfl rfl (XS.bipush S303.here hx rfl (hb hby own_d6_312) q)) ?_
  show G T303 (mkF m 314 #[rv b, iv ln] [(.int 8), (.ref x303), (.ref x303)])
  refine Own.Sit.newP hG S303 hx (aty := .char) (hW 0 _ rfl) rfl (hb hby own_d6_314) rfl (by decide) (cap := 8) (by decide) (by decide) (by decide) (by decide) (fun T306 h306 x306 k306 g_x306 S306 J306 Sf306 (V306 : Arv Z h306 x306 k306 .char (8 : Int32) [(.int 0), (.int 0), (.int 0), (.int 0), (.int 0), (.int 0), (.int 0), (.int 0)] (.int 0)) => ?_)
  have lt_x306 := V306.lt
  have ga_x306 : Z.heap.size ≤ x306 := Nat.le_trans S303.le (Nat.le_of_eq g_x306.symm)
  refine hG.st (fun t q => XS.dup S306.here hx rfl (hb hby own_d6_316) rfl rfl (XS.iconst S306.here hx rfl (hb hby own_d6_317) (XS.aloadN S306.here hx rfl (hb hby own_d6_318) rfl rfl (XS.iconst S306.here hx rfl (hb hby own_d6_319) q)))) ?_
  show G T306 (mkF m 320 #[rv b, iv ln] [(.int 0), (.ref b), (.int 0), (.ref x306), (.ref x306), (.ref x303), (.ref x303)])
  have J307 : Own.Stp Z consts_1 vm0 h0 vm0 h306 [] := Own.Stp.trans J303 J306 (all0) all0
  have V308 := J307.arv A_b nin0
  refine Own.Sit.caload hG S306 hx V308 ⟨by decide, by decide⟩ (own_get (i := 0) (by rw [hlen]; decide)) rfl rfl (hb hby own_d6_320) ?_
  obtain ⟨d309, ed309⟩ : ∃ z, z = cs.getD 0 0 := ⟨_, rfl⟩
  rw [← ed309]
  have rd309 : ¬ d309 < 0 ∧ ¬ (255 : Int32) < d309 := ed309 ▸ own_rg hr 0
  show G T306 (mkF m 321 #[rv b, iv ln] [(.int d309), (.int 0), (.ref x306), (.ref x306), (.ref x303), (.ref x303)])
  refine Own.Sit.stC hG S306 hx V306 ga_x306 ⟨by decide, by decide⟩ 0 rfl (Nat.le_of_ble_eq_true rfl) rfl rfl (hb hby own_d6_321) (fun T310 h310 S310 J310 (V310 : Arv Z h310 x306 k306 .char (8 : Int32) [(.int (nar .char d309)), (.int 0), (.int 0), (.int 0), (.int 0), (.int 0), (.int 0), (.int 0)] (.int 0)) => ?_)
  rw [own_nar rd309] at V310
  refine hG.st (fun t q => XS.dup S310.here hx rfl (hb hby own_d6_322) rfl rfl (XS.iconst S310.here hx rfl (hb hby own_d6_323) (XS.aloadN S310.here hx rfl (hb hby own_d6_324) rfl rfl (XS.iconst S310.here hx rfl (hb hby own_d6_325) q)))) ?_
  show G T310 (mkF m 326 #[rv b, iv ln] [(.int 1), (.ref b), (.int 1), (.ref x306), (.ref x306), (.ref x303), (.ref x303)])
  have V311 := J310.arv V308 (ninS (Nat.ne_of_lt (Nat.lt_of_lt_of_le (Nat.lt_of_lt_of_le A_b.lt J303.1.1) (Nat.le_of_eq g_x306.symm))) nin0)
  refine Own.Sit.caload hG S310 hx V311 ⟨by decide, by decide⟩ (own_get (i := 1) (by rw [hlen]; decide)) rfl rfl (hb hby own_d6_326) ?_
  obtain ⟨d312, ed312⟩ : ∃ z, z = cs.getD 1 0 := ⟨_, rfl⟩
  rw [← ed312]
  have rd312 : ¬ d312 < 0 ∧ ¬ (255 : Int32) < d312 := ed312 ▸ own_rg hr 1
  show G T310 (mkF m 327 #[rv b, iv ln] [(.int d312), (.int 1), (.ref x306), (.ref x306), (.ref x303), (.ref x303)])
  refine Own.Sit.stC hG S310 hx V310 ga_x306 ⟨by decide, by decide⟩ 1 rfl (Nat.le_of_ble_eq_true rfl) rfl rfl (hb hby own_d6_327) (fun T313 h313 S313 J313 (V313 : Arv Z h313 x306 k306 .char (8 : Int32) [(.int d309), (.int (nar .char d312)), (.int 0), (.int 0), (.int 0), (.int 0), (.int 0), (.int 0)] (.int 0)) => ?_)
  rw [own_nar rd312] at V313
  refine hG.st (fun t q => XS.dup S313.here hx rfl (hb hby own_d6_328) rfl rfl (XS.iconst S313.here hx rfl (hb hby own_d6_329) (XS.aloadN S313.here hx rfl (hb hby own_d6_330) rfl rfl (XS.iconst S313.here hx rfl (hb hby own_d6_331) q)))) ?_
  show G T313 (mkF m 332 #[rv b, iv ln] [(.int 2), (.ref b), (.int 2), (.ref x306), (.ref x306), (.ref x303), (.ref x303)])
  have V314 := J313.arv V311 (ninS (Nat.ne_of_lt (Nat.lt_of_lt_of_le (Nat.lt_of_lt_of_le A_b.lt J303.1.1) (Nat.le_of_eq g_x306.symm))) nin0)
  refine Own.Sit.caload hG S313 hx V314 ⟨by decide, by decide⟩ (own_get (i := 2) (by rw [hlen]; decide)) rfl rfl (hb hby own_d6_332) ?_
  obtain ⟨d315, ed315⟩ : ∃ z, z = cs.getD 2 0 := ⟨_, rfl⟩
  rw [← ed315]
  have rd315 : ¬ d315 < 0 ∧ ¬ (255 : Int32) < d315 := ed315 ▸ own_rg hr 2
  show G T313 (mkF m 333 #[rv b, iv ln] [(.int d315), (.int 2), (.ref x306), (.ref x306), (.ref x303), (.ref x303)])
  refine Own.Sit.stC hG S313 hx V313 ga_x306 ⟨by decide, by decide⟩ 2 rfl (Nat.le_of_ble_eq_true rfl) rfl rfl (hb hby own_d6_333) (fun T316 h316 S316 J316 (V316 : Arv Z h316 x306 k306 .char (8 : Int32) [(.int d309), (.int d312), (.int (nar .char d315)), (.int 0), (.int 0), (.int 0), (.int 0), (.int 0)] (.int 0)) => ?_)
  rw [own_nar rd315] at V316
  refine hG.st (fun t q => XS.dup S316.here hx rfl (hb hby own_d6_334) rfl rfl (XS.iconst S316.here hx rfl (hb hby own_d6_335) (XS.aloadN S316.here hx rfl (hb hby own_d6_336) rfl rfl (XS.iconst S316.here hx rfl (hb hby own_d6_337) q)))) ?_
  show G T316 (mkF m 338 #[rv b, iv ln] [(.int 3), (.ref b), (.int 3), (.ref x306), (.ref x306), (.ref x303), (.ref x303)])
  have V317 := J316.arv V314 (ninS (Nat.ne_of_lt (Nat.lt_of_lt_of_le (Nat.lt_of_lt_of_le A_b.lt J303.1.1) (Nat.le_of_eq g_x306.symm))) nin0)
  refine Own.Sit.caload hG S316 hx V317 ⟨by decide, by decide⟩ (own_get (i := 3) (by rw [hlen]; decide)) rfl rfl (hb hby own_d6_338) ?_
  obtain ⟨d318, ed318⟩ : ∃ z, z = cs.getD 3 0 := ⟨_, rfl⟩
  rw [← ed318]
  have rd318 : ¬ d318 < 0 ∧ ¬ (255 : Int32) < d318 := ed318 ▸ own_rg hr 3
  show G T316 (mkF m 339 #[rv b, iv ln] [(.int d318), (.int 3), (.ref x306), (.ref x306), (.ref x303), (.ref x303)])
  refine Own.Sit.stC hG S316 hx V316 ga_x306 ⟨by decide, by decide⟩ 3 rfl (Nat.le_of_ble_eq_true rfl) rfl rfl (hb hby own_d6_339) (fun T319 h319 S319 J319 (V319 : Arv Z h319 x306 k306 .char (8 : Int32) [(.int d309), (.int d312), (.int d315), (.int (nar .char d318)), (.int 0), (.int 0), (.int 0), (.int 0)] (.int 0)) => ?_)
  rw [own_nar rd318] at V319
  refine hG.st (fun t q => XS.dup S319.here hx rfl (hb hby own_d6_340) rfl rfl (XS.iconst S319.here hx rfl (hb hby own_d6_341) (XS.aloadN S319.here hx rfl (hb hby own_d6_342) rfl rfl (XS.iconst S319.here hx rfl (hb hby own_d6_343) q)))) ?_
  show G T319 (mkF m 344 #[rv b, iv ln] [(.int 4), (.ref b), (.int 4), (.ref x306), (.ref x306), (.ref x303), (.ref x303)])
  have V320 := J319.arv V317 (ninS (Nat.ne_of_lt (Nat.lt_of_lt_of_le (Nat.lt_of_lt_of_le A_b.lt J303.1.1) (Nat.le_of_eq g_x306.symm))) nin0)
  refine Own.Sit.caload hG S319 hx V320 ⟨by decide, by decide⟩ (own_get (i := 4) (by rw [hlen]; decide)) rfl rfl (hb hby own_d6_344) ?_
  obtain ⟨d321, ed321⟩ : ∃ z, z = cs.getD 4 0 := ⟨_, rfl⟩
  rw [← ed321]
  have rd321 : ¬ d321 < 0 ∧ ¬ (255 : Int32) < d321 := ed321 ▸ own_rg hr 4
  show G T319 (mkF m 345 #[rv b, iv ln] [(.int d321), (.int 4), (.ref x306), (.ref x306), (.ref x303), (.ref x303)])
  refine Own.Sit.stC hG S319 hx V319 ga_x306 ⟨by decide, by decide⟩ 4 rfl (Nat.le_of_ble_eq_true rfl) rfl rfl (hb hby own_d6_345) (fun T322 h322 S322 J322 (V322 : Arv Z h322 x306 k306 .char (8 : Int32) [(.int d309), (.int d312), (.int d315), (.int d318), (.int (nar .char d321)), (.int 0), (.int 0), (.int 0)] (.int 0)) => ?_)
  rw [own_nar rd321] at V322
  refine hG.st (fun t q => XS.dup S322.here hx rfl (hb hby own_d6_346) rfl rfl (XS.iconst S322.here hx rfl (hb hby own_d6_347) (XS.aloadN S322.here hx rfl (hb hby own_d6_348) rfl rfl (XS.iconst S322.here hx rfl (hb hby own_d6_349) q)))) ?_
  show G T322 (mkF m 350 #[rv b, iv ln] [(.int 5), (.ref b), (.int 5), (.ref x306), (.ref x306), (.ref x303), (.ref x303)])
  have V323 := J322.arv V320 (ninS (Nat.ne_of_lt (Nat.lt_of_lt_of_le (Nat.lt_of_lt_of_le A_b.lt J303.1.1) (Nat.le_of_eq g_x306.symm))) nin0)
  refine Own.Sit.caload hG S322 hx V323 ⟨by decide, by decide⟩ (own_get (i := 5) (by rw [hlen]; decide)) rfl rfl (hb hby own_d6_350) ?_
  obtain ⟨d324, ed324⟩ : ∃ z, z = cs.getD 5 0 := ⟨_, rfl⟩
  rw [← ed324]
  have rd324 : ¬ d324 < 0 ∧ ¬ (255 : Int32) < d324 := ed324 ▸ own_rg hr 5
  show G T322 (mkF m 351 #[rv b, iv ln] [(.int d324), (.int 5), (.ref x306), (.ref x306), (.ref x303), (.ref x303)])
  refine Own.Sit.stC hG S322 hx V322 ga_x306 ⟨by decide, by decide⟩ 5 rfl (Nat.le_of_ble_eq_true rfl) rfl rfl (hb hby own_d6_351) (fun T325 h325 S325 J325 (V325 : Arv Z h325 x306 k306 .char (8 : Int32) [(.int d309), (.int d312), (.int d315), (.int d318), (.int d321), (.int (nar .char d324)), (.int 0), (.int 0)] (.int 0)) => ?_)
  rw [own_nar rd324] at V325
  refine hG.st (fun t q => XS.dup S325.here hx rfl (hb hby own_d6_352) rfl rfl (XS.bipush S325.here hx rfl (hb hby own_d6_353) (XS.aloadN S325.here hx rfl (hb hby own_d6_355) rfl rfl (XS.bipush S325.here hx rfl (hb hby own_d6_356) q)))) ?_
  show G T325 (mkF m 358 #[rv b, iv ln] [(.int 6), (.ref b), (.int 6), (.ref x306), (.ref x306), (.ref x303), (.ref x303)])
  have V326 := J325.arv V323 (ninS (Nat.ne_of_lt (Nat.lt_of_lt_of_le (Nat.lt_of_lt_of_le A_b.lt J303.1.1) (Nat.le_of_eq g_x306.symm))) nin0)
  refine Own.Sit.caload hG S325 hx V326 ⟨by decide, by decide⟩ (own_get (i := 6) (by rw [hlen]; decide)) rfl rfl (hb hby own_d6_358) ?_
  obtain ⟨d327, ed327⟩ : ∃ z, z = cs.getD 6 0 := ⟨_, rfl⟩
  rw [← ed327]
  have rd327 : ¬ d327 < 0 ∧ ¬ (255 : Int32) < d327 := ed327 ▸ own_rg hr 6
  show G T325 (mkF m 359 #[rv b, iv ln] [(.int d327), (.int 6), (.ref x306), (.ref x306), (.ref x303), (.ref x303)])
  refine Own.Sit.stC hG S325 hx V325 ga_x306 ⟨by decide, by decide⟩ 6 rfl (Nat.le_of_ble_eq_true rfl) rfl rfl (hb hby own_d6_359) (fun T328 h328 S328 J328 (V328 : Arv Z h328 x306 k306 .char (8 : Int32) [(.int d309), (.int d312), (.int d315), (.int d318), (.int d321), (.int d324), (.int (nar .char d327)), (.int 0)] (.int 0)) => ?_)
  rw [own_nar rd327] at V328
  refine hG.st (fun t q => XS.dup S328.here hx rfl (hb hby own_d6_360) rfl rfl (XS.bipush S328.here hx rfl (hb hby own_d6_361) (XS.aloadN S328.here hx rfl (hb hby own_d6_363) rfl rfl (XS.bipush S328.here hx rfl (hb hby own_d6_364) q)))) ?_
  show G T328 (mkF m 366 #[rv b, iv ln] [(.int 7), (.ref b), (.int 7), (.ref x306), (.ref x306), (.ref x303), (.ref x303)])
  have V329 := J328.arv V326 (ninS (Nat.ne_of_lt (Nat.lt_of_lt_of_le (Nat.lt_of_lt_of_le A_b.lt J303.1.1) (Nat.le_of_eq g_x306.symm))) nin0)
  refine Own.Sit.caload hG S328 hx V329 ⟨by decide, by decide⟩ (own_get (i := 7) (by rw [hlen]; decide)) rfl rfl (hb hby own_d6_366) ?_
  obtain ⟨d330, ed330⟩ : ∃ z, z = cs.getD 7 0 := ⟨_, rfl⟩
  rw [← ed330]
  have rd330 : ¬ d330 < 0 ∧ ¬ (255 : Int32) < d330 := ed330 ▸ own_rg hr 7
  show G T328 (mkF m 367 #[rv b, iv ln] [(.int d330), (.int 7), (.ref x306), (.ref x306), (.ref x303), (.ref x303)])
  refine Own.Sit.stC hG S328 hx V328 ga_x306 ⟨by decide, by decide⟩ 7 rfl (Nat.le_of_ble_eq_true rfl) rfl rfl (hb hby own_d6_367) (fun T331 h331 S331 J331 (V331 : Arv Z h331 x306 k306 .char (8 : Int32) [(.int d309), (.int d312), (.int d315), (.int d318), (.int d321), (.int d324), (.int d327), (.int (nar .char d330))] (.int 0)) => ?_)
  rw [own_nar rd330] at V331
  have J332 : Own.Stp Z consts_1 vm0 h303 vm0 h310 [] := Own.Stp.trans J306 J310 (all0) (allS (Or.inr (Nat.le_of_eq g_x306.symm)) all0)
  have J333 : Own.Stp Z consts_1 vm0 h303 vm0 h313 [] := Own.Stp.trans J332 J313 (all0) (allS (Or.inr (Nat.le_of_eq g_x306.symm)) all0)
  have J334 : Own.Stp Z consts_1 vm0 h303 vm0 h316 [] := Own.Stp.trans J333 J316 (all0) (allS (Or.inr (Nat.le_of_eq g_x306.symm)) all0)
  have J335 : Own.Stp Z consts_1 vm0 h303 vm0 h319 [] := Own.Stp.trans J334 J319 (all0) (allS (Or.inr (Nat.le_of_eq g_x306.symm)) all0)
  have J336 : Own.Stp Z consts_1 vm0 h303 vm0 h322 [] := Own.Stp.trans J335 J322 (all0) (allS (Or.inr (Nat.le_of_eq g_x306.symm)) all0)
  have J337 : Own.Stp Z consts_1 vm0 h303 vm0 h325 [] := Own.Stp.trans J336 J325 (all0) (allS (Or.inr (Nat.le_of_eq g_x306.symm)) all0)
  have J338 : Own.Stp Z consts_1 vm0 h303 vm0 h328 [] := Own.Stp.trans J337 J328 (all0) (allS (Or.inr (Nat.le_of_eq g_x306.symm)) all0)
  have J339 : Own.Stp Z consts_1 vm0 h303 vm0 h331 [] := Own.Stp.trans J338 J331 (all0) (allS (Or.inr (Nat.le_of_eq g_x306.symm)) all0)
  have E340 := J339.exa E303
  have F341 := J339.fld F305 nin0
  have F342 := J339.fld F304 nin0
  have Sf343 := J339.safe lt_x303 Sf303
  have hp344 : ∀ c ∈ ([d309, d312, d315, d318, d321, d324, d327, d330] : List Int32), ¬ c < 0 ∧ ¬ (255 : Int32) < c := by
    intro c hc
    simp only [List.mem_cons, List.not_mem_nil, or_false] at hc
    rcases hc with rfl | rfl | rfl | rfl | rfl | rfl | rfl | rfl
    · exact rd309
    · exact rd312
    · exact rd315
    · exact rd318
    · exact rd321
    · exact rd324
    · exact rd327
    · exact rd330
  show G T331 (mkF m 368 #[rv b, iv ln] [(.ref x306), (.ref x303), (.ref x303)])
  refine Own.Sit.newStr hG S331 hx hWs hCm (hW 6 _ rfl) (hW 8 _ rfl) (hW 9 _ rfl) (cs := ([d309, d312, d315, d318, d321, d324, d327, d330] : List Int32)) ga_x303 Sf343 E340 F341 F342 V331 rfl (Nat.le_of_ble_eq_true rfl) (Nat.le_of_ble_eq_true rfl) hp344 (nn := 8) (Nat.le_of_ble_eq_true rfl) rfl (hz _ rfl) (rest := [(.ref x303)]) rfl (W := 1) (Own.hw0 rfl rfl) (hb hby own_d6_368) (by decide) (by decide) (by decide) (by decide) (fun T345 h345 y345 S345 J345 u345 St345 => ?_)
  have J346 : Own.Stp Z consts_1 vm0 h0 vm0 h310 [] := Own.Stp.trans J307 J310 (all0) (allS (Or.inr (Nat.le_trans J303.1.1 (Nat.le_of_eq g_x306.symm))) all0)
  have J347 : Own.Stp Z consts_1 vm0 h0 vm0 h313 [] := Own.Stp.trans J346 J313 (all0) (allS (Or.inr (Nat.le_trans J303.1.1 (Nat.le_of_eq g_x306.symm))) all0)
  have J348 : Own.Stp Z consts_1 vm0 h0 vm0 h316 [] := Own.Stp.trans J347 J316 (all0) (allS (Or.inr (Nat.le_trans J303.1.1 (Nat.le_of_eq g_x306.symm))) all0)
  have J349 : Own.Stp Z consts_1 vm0 h0 vm0 h319 [] := Own.Stp.trans J348 J319 (all0) (allS (Or.inr (Nat.le_trans J303.1.1 (Nat.le_of_eq g_x306.symm))) all0)
  have J350 : Own.Stp Z consts_1 vm0 h0 vm0 h322 [] := Own.Stp.trans J349 J322 (all0) (allS (Or.inr (Nat.le_trans J303.1.1 (Nat.le_of_eq g_x306.symm))) all0)
  have J351 : Own.Stp Z consts_1 vm0 h0 vm0 h325 [] := Own.Stp.trans J350 J325 (all0) (allS (Or.inr (Nat.le_trans J303.1.1 (Nat.le_of_eq g_x306.symm))) all0)
  have J352 : Own.Stp Z consts_1 vm0 h0 vm0 h328 [] := Own.Stp.trans J351 J328 (all0) (allS (Or.inr (Nat.le_trans J303.1.1 (Nat.le_of_eq g_x306.symm))) all0)
  have J353 : Own.Stp Z consts_1 vm0 h0 vm0 h331 [] := Own.Stp.trans J352 J331 (all0) (allS (Or.inr (Nat.le_trans J303.1.1 (Nat.le_of_eq g_x306.symm))) all0)
  have J354 : Own.Stp Z consts_1 vm0 h0 vm0 h345 [] := Own.Stp.trans J353 J345 (all0) (allS (Or.inr (Nat.le_of_eq g_x303.symm)) all0)
  show G T345 (mkF m 371 #[rv b, iv ln] [(.ref x303)])
  exact Own.Sit.retO hR S345 hx hret rfl (Or.inr (Or.inr (Or.inr (Or.inr ⟨rfl, rfl, rfl⟩)))) (hb hby own_d6_371) (by decide) (by decide) ⟨J354.1, x303, _, _, rfl, St345, (Nat.le_of_eq g_x303.symm)⟩
theorem own_and7 (x : Int32) : ¬ (x &&& (7 : Int32)) < 0 ∧ (x &&& (7 : Int32)) < 8 := by
  have h := c_and x 7 (by decide)
  have e0 : (0 : Int32).toInt = 0 := rfl
  have e7 : (7 : Int32).toInt = 7 := rfl
  have e8 : (8 : Int32).toInt = 8 := rfl
  simp only [Int32.lt_iff_toInt_lt, e0, e8]
  omega
theorem own_lt8 {j : Int32} (h : ¬ j < 0 ∧ j < 8) : j.toNatClampNeg < 8 := by
  have e0 : (0 : Int32).toInt = 0 := rfl
  have e8 : (8 : Int32).toInt = 8 := rfl
  simp only [Int32.lt_iff_toInt_lt, e0, e8] at h
  simp only [Int32.toNatClampNeg]
  omega
theorem own_setr {cs : List Int32} {y : Int32} {i : Nat} (hr : ∀ c ∈ cs, ¬ c < 0 ∧ ¬ (255 : Int32) < c) (hy : ¬ y < 0 ∧ ¬ (255 : Int32) < y) : ∀ c ∈ cs.set i y, ¬ c < 0 ∧ ¬ (255 : Int32) < c := fun c hc => by
  rcases List.mem_or_eq_of_mem_set hc with q | rfl
  · exact hr c q
  · exact hy
theorem own_pncd2af7 : plainFor x = true := by first | exact plainFor_of_name (by first | (simp [plainName, overriddenIn]; done) | decide +kernel) | decide +kernel
theorem own_pde58a0d : parseMethodDescriptor "(Ljava/lang/String;)Lcom/example/earnline/earnline/book/LedgerExport;" = some ⟨[(.object "java/lang/String")], some (.object "com/example/earnline/earnline/book/LedgerExport")⟩ := by decide +kernel
theorem own_pde07951 : parseMethodDescriptor "([CI)Ljava/lang/String;" = some ⟨[(.array .char), .int], some (.object "java/lang/String")⟩ := by decide +kernel
theorem own_ef_own_law (m : MethodId) (q0 : Int32) (q1 : Int32) (q2 : Int32) (q3 : Int32) (q4 : Int32) (q5 : Int32) : entryFrame m #[(.int q0), (.int q1), (.int q2), (.int q3), (.int q4), (.int q5)] maxLocals = mkF m 0 #[iv q0, iv q1, iv q2, iv q3, iv q4, iv q5, .unset, .unset, .unset, .unset, .unset, .unset] [] := by first | (simp [entryFrame, mkF, argsToLocals, Value.category, maxLocals]; done) | rfl
set_option maxRecDepth 65536 in
set_option maxHeartbeats 40000000 in
theorem own_law (l : Launch) (Z : State) (a0 : Array Value) (H : own_Wld Z a0) {cw : List Jvm.Cond} (q0 : Int32) (q1 : Int32) (q2 : Int32) (q3 : Int32) (q4 : Int32) (q5 : Int32) {kl kn va sl tl sn tn : Addr} {kc : ClassId} (N : own_En Z kl kn va sl tl sn tn kc) (h0 : Heap) (O0 : Ext Z.heap h0) :
    Own.Con l Z consts_1 x code maxLocals ret cw room_1 #[(.int q0), (.int q1), (.int q2), (.int q3), (.int q4), (.int q5)] h0 (fun v h => Keep h0 h [] ∧ v = some (.int 1)) := by
  have hw := H.1
  have hW := fun (i : Nat) (w : Jvm.Cond) (e : tables_1[i]? = some w) => hw w (List.mem_of_getElem? e)
  have hCm := H.2.1
  have hSi := H.2.2.1
  have hEL := H.2.2.2
  have hWs : ∀ d ∈ StrChars.Road.words, d.before a0 Z = true := fun d hd => hw d (own_wbackV d hd)
  have hWe : ∀ d ∈ StrChars.Road.wordsEq, d.before a0 Z = true := fun d hd => hw d (own_weqW d hd)
  have hSA : ∀ d ∈ Bundle.stringAtoms, d.before a0 Z = true := fun d hd => hw d (own_wSA d hd)
  refine Own.Con.of own_pncd2af7 hEL O0 ?_
  intro p e s m below meth c T0 G vm0 hx hby hml hret hnm hG hR S0
  have hz : ∀ L : Array Slot, L.size = maxLocals → L.size = c.maxLocals := fun L q => q.trans hml.symm
  rw [own_ef_own_law]
  show G T0 (mkF m 0 #[iv q0, iv q1, iv q2, iv q3, iv q4, iv q5, .unset, .unset, .unset, .unset, .unset, .unset] [])
  obtain ⟨Sl, Sn, Sv, Av, Ev, Ekl, Ekn, Fkl, Fkn, Sts, Stn⟩ := id N
  refine hG.st (fun t q => XS.iloadN S0.here hx rfl (hb hby at_0) rfl (XS.iconst S0.here hx rfl (hb hby at_1) (XS.iushr S0.here hx rfl (hb hby at_2) rfl (XS.iconst S0.here hx rfl (hb hby at_3) (XS.iand S0.here hx rfl (hb hby at_4) rfl (XS.istore S0.here hx rfl (hb hby at_5) rfl (l' := #[iv q0, iv q1, iv q2, iv q3, iv q4, iv q5, iv (((q0.toUInt32 >>> ((4 : Int32) &&& 31).toUInt32).toInt32) &&& (3 : Int32)), .unset, .unset, .unset, .unset, .unset]) rfl q)))))) ?_
  show G T0 (mkF m 7 #[iv q0, iv q1, iv q2, iv q3, iv q4, iv q5, iv (((q0.toUInt32 >>> ((4 : Int32) &&& 31).toUInt32).toInt32) &&& (3 : Int32)), .unset, .unset, .unset, .unset, .unset] [])
  refine hG.st (fun t q => XS.bipush S0.here hx rfl (hb hby at_7) q) ?_
  show G T0 (mkF m 9 #[iv q0, iv q1, iv q2, iv q3, iv q4, iv q5, iv (((q0.toUInt32 >>> ((4 : Int32) &&& 31).toUInt32).toInt32) &&& (3 : Int32)), .unset, .unset, .unset, .unset, .unset] [(.int 8)])
  refine Own.Sit.newP hG S0 hx (aty := .char) (hW 0 _ rfl) rfl (hb hby at_9) rfl (by decide) (cap := 8) (by decide) (by decide) (by decide) (by decide) (fun T355 h355 x355 k355 g_x355 S355 J355 Sf355 (V355 : Arv Z h355 x355 k355 .char (8 : Int32) [(.int 0), (.int 0), (.int 0), (.int 0), (.int 0), (.int 0), (.int 0), (.int 0)] (.int 0)) => ?_)
  have lt_x355 := V355.lt
  have ga_x355 : Z.heap.size ≤ x355 := Nat.le_trans S0.le (Nat.le_of_eq g_x355.symm)
  refine hG.st (fun t q => XS.astore S355.here hx rfl (hb hby at_11) rfl rfl (l' := #[iv q0, iv q1, iv q2, iv q3, iv q4, iv q5, iv (((q0.toUInt32 >>> ((4 : Int32) &&& 31).toUInt32).toInt32) &&& (3 : Int32)), rv x355, .unset, .unset, .unset, .unset]) rfl (XS.aload S355.here hx rfl (hb hby at_13) rfl rfl (XS.iconst S355.here hx rfl (hb hby at_15) (XS.iload S355.here hx rfl (hb hby at_16) rfl (XS.sipush S355.here hx rfl (hb hby at_18) (XS.iand S355.here hx rfl (hb hby at_21) rfl q)))))) ?_
  show G T355 (mkF m 22 #[iv q0, iv q1, iv q2, iv q3, iv q4, iv q5, iv (((q0.toUInt32 >>> ((4 : Int32) &&& 31).toUInt32).toInt32) &&& (3 : Int32)), rv x355, .unset, .unset, .unset, .unset] [(.int (q4 &&& (255 : Int32))), (.int 0), (.ref x355)])
  refine hG.st (fun t q => XS.i2c S355.here hx rfl (hb hby at_22) rfl q) ?_
  show G T355 (mkF m 23 #[iv q0, iv q1, iv q2, iv q3, iv q4, iv q5, iv (((q0.toUInt32 >>> ((4 : Int32) &&& 31).toUInt32).toInt32) &&& (3 : Int32)), rv x355, .unset, .unset, .unset, .unset] [(.int ((q4 &&& (255 : Int32)).toUInt32.toUInt16.toUInt32.toInt32)), (.int 0), (.ref x355)])
  refine Own.Sit.stC hG S355 hx V355 ga_x355 ⟨by decide, by decide⟩ 0 rfl (Nat.le_of_ble_eq_true rfl) rfl rfl (hb hby at_23) (fun T356 h356 S356 J356 (V356 : Arv Z h356 x355 k355 .char (8 : Int32) [(.int (nar .char ((q4 &&& (255 : Int32)).toUInt32.toUInt16.toUInt32.toInt32))), (.int 0), (.int 0), (.int 0), (.int 0), (.int 0), (.int 0), (.int 0)] (.int 0)) => ?_)
  refine hG.st (fun t q => XS.aload S356.here hx rfl (hb hby at_24) rfl rfl (XS.iconst S356.here hx rfl (hb hby at_26) (XS.iload S356.here hx rfl (hb hby at_27) rfl (XS.bipush S356.here hx rfl (hb hby at_29) (XS.iushr S356.here hx rfl (hb hby at_31) rfl (XS.sipush S356.here hx rfl (hb hby at_32) q)))))) ?_
  show G T356 (mkF m 35 #[iv q0, iv q1, iv q2, iv q3, iv q4, iv q5, iv (((q0.toUInt32 >>> ((4 : Int32) &&& 31).toUInt32).toInt32) &&& (3 : Int32)), rv x355, .unset, .unset, .unset, .unset] [(.int 255), (.int ((q4.toUInt32 >>> ((8 : Int32) &&& 31).toUInt32).toInt32)), (.int 1), (.ref x355)])
  refine hG.st (fun t q => XS.iand S356.here hx rfl (hb hby at_35) rfl (XS.i2c S356.here hx rfl (hb hby at_36) rfl q)) ?_
  show G T356 (mkF m 37 #[iv q0, iv q1, iv q2, iv q3, iv q4, iv q5, iv (((q0.toUInt32 >>> ((4 : Int32) &&& 31).toUInt32).toInt32) &&& (3 : Int32)), rv x355, .unset, .unset, .unset, .unset] [(.int ((((q4.toUInt32 >>> ((8 : Int32) &&& 31).toUInt32).toInt32) &&& (255 : Int32)).toUInt32.toUInt16.toUInt32.toInt32)), (.int 1), (.ref x355)])
  refine Own.Sit.stC hG S356 hx V356 ga_x355 ⟨by decide, by decide⟩ 1 rfl (Nat.le_of_ble_eq_true rfl) rfl rfl (hb hby at_37) (fun T357 h357 S357 J357 (V357 : Arv Z h357 x355 k355 .char (8 : Int32) [(.int (nar .char ((q4 &&& (255 : Int32)).toUInt32.toUInt16.toUInt32.toInt32))), (.int (nar .char ((((q4.toUInt32 >>> ((8 : Int32) &&& 31).toUInt32).toInt32) &&& (255 : Int32)).toUInt32.toUInt16.toUInt32.toInt32))), (.int 0), (.int 0), (.int 0), (.int 0), (.int 0), (.int 0)] (.int 0)) => ?_)
  refine hG.st (fun t q => XS.aload S357.here hx rfl (hb hby at_38) rfl rfl (XS.iconst S357.here hx rfl (hb hby at_40) (XS.iload S357.here hx rfl (hb hby at_41) rfl (XS.bipush S357.here hx rfl (hb hby at_43) (XS.iushr S357.here hx rfl (hb hby at_45) rfl (XS.sipush S357.here hx rfl (hb hby at_46) q)))))) ?_
  show G T357 (mkF m 49 #[iv q0, iv q1, iv q2, iv q3, iv q4, iv q5, iv (((q0.toUInt32 >>> ((4 : Int32) &&& 31).toUInt32).toInt32) &&& (3 : Int32)), rv x355, .unset, .unset, .unset, .unset] [(.int 255), (.int ((q4.toUInt32 >>> ((16 : Int32) &&& 31).toUInt32).toInt32)), (.int 2), (.ref x355)])
  refine hG.st (fun t q => XS.iand S357.here hx rfl (hb hby at_49) rfl (XS.i2c S357.here hx rfl (hb hby at_50) rfl q)) ?_
  show G T357 (mkF m 51 #[iv q0, iv q1, iv q2, iv q3, iv q4, iv q5, iv (((q0.toUInt32 >>> ((4 : Int32) &&& 31).toUInt32).toInt32) &&& (3 : Int32)), rv x355, .unset, .unset, .unset, .unset] [(.int ((((q4.toUInt32 >>> ((16 : Int32) &&& 31).toUInt32).toInt32) &&& (255 : Int32)).toUInt32.toUInt16.toUInt32.toInt32)), (.int 2), (.ref x355)])
  refine Own.Sit.stC hG S357 hx V357 ga_x355 ⟨by decide, by decide⟩ 2 rfl (Nat.le_of_ble_eq_true rfl) rfl rfl (hb hby at_51) (fun T358 h358 S358 J358 (V358 : Arv Z h358 x355 k355 .char (8 : Int32) [(.int (nar .char ((q4 &&& (255 : Int32)).toUInt32.toUInt16.toUInt32.toInt32))), (.int (nar .char ((((q4.toUInt32 >>> ((8 : Int32) &&& 31).toUInt32).toInt32) &&& (255 : Int32)).toUInt32.toUInt16.toUInt32.toInt32))), (.int (nar .char ((((q4.toUInt32 >>> ((16 : Int32) &&& 31).toUInt32).toInt32) &&& (255 : Int32)).toUInt32.toUInt16.toUInt32.toInt32))), (.int 0), (.int 0), (.int 0), (.int 0), (.int 0)] (.int 0)) => ?_)
  refine hG.st (fun t q => XS.aload S358.here hx rfl (hb hby at_52) rfl rfl (XS.iconst S358.here hx rfl (hb hby at_54) (XS.iload S358.here hx rfl (hb hby at_55) rfl (XS.bipush S358.here hx rfl (hb hby at_57) (XS.iushr S358.here hx rfl (hb hby at_59) rfl (XS.sipush S358.here hx rfl (hb hby at_60) q)))))) ?_
  show G T358 (mkF m 63 #[iv q0, iv q1, iv q2, iv q3, iv q4, iv q5, iv (((q0.toUInt32 >>> ((4 : Int32) &&& 31).toUInt32).toInt32) &&& (3 : Int32)), rv x355, .unset, .unset, .unset, .unset] [(.int 255), (.int ((q4.toUInt32 >>> ((24 : Int32) &&& 31).toUInt32).toInt32)), (.int 3), (.ref x355)])
  refine hG.st (fun t q => XS.iand S358.here hx rfl (hb hby at_63) rfl (XS.i2c S358.here hx rfl (hb hby at_64) rfl q)) ?_
  show G T358 (mkF m 65 #[iv q0, iv q1, iv q2, iv q3, iv q4, iv q5, iv (((q0.toUInt32 >>> ((4 : Int32) &&& 31).toUInt32).toInt32) &&& (3 : Int32)), rv x355, .unset, .unset, .unset, .unset] [(.int ((((q4.toUInt32 >>> ((24 : Int32) &&& 31).toUInt32).toInt32) &&& (255 : Int32)).toUInt32.toUInt16.toUInt32.toInt32)), (.int 3), (.ref x355)])
  refine Own.Sit.stC hG S358 hx V358 ga_x355 ⟨by decide, by decide⟩ 3 rfl (Nat.le_of_ble_eq_true rfl) rfl rfl (hb hby at_65) (fun T359 h359 S359 J359 (V359 : Arv Z h359 x355 k355 .char (8 : Int32) [(.int (nar .char ((q4 &&& (255 : Int32)).toUInt32.toUInt16.toUInt32.toInt32))), (.int (nar .char ((((q4.toUInt32 >>> ((8 : Int32) &&& 31).toUInt32).toInt32) &&& (255 : Int32)).toUInt32.toUInt16.toUInt32.toInt32))), (.int (nar .char ((((q4.toUInt32 >>> ((16 : Int32) &&& 31).toUInt32).toInt32) &&& (255 : Int32)).toUInt32.toUInt16.toUInt32.toInt32))), (.int (nar .char ((((q4.toUInt32 >>> ((24 : Int32) &&& 31).toUInt32).toInt32) &&& (255 : Int32)).toUInt32.toUInt16.toUInt32.toInt32))), (.int 0), (.int 0), (.int 0), (.int 0)] (.int 0)) => ?_)
  refine hG.st (fun t q => XS.aload S359.here hx rfl (hb hby at_66) rfl rfl (XS.iconst S359.here hx rfl (hb hby at_68) (XS.iload S359.here hx rfl (hb hby at_69) rfl (XS.sipush S359.here hx rfl (hb hby at_71) (XS.iand S359.here hx rfl (hb hby at_74) rfl (XS.i2c S359.here hx rfl (hb hby at_75) rfl q)))))) ?_
  show G T359 (mkF m 76 #[iv q0, iv q1, iv q2, iv q3, iv q4, iv q5, iv (((q0.toUInt32 >>> ((4 : Int32) &&& 31).toUInt32).toInt32) &&& (3 : Int32)), rv x355, .unset, .unset, .unset, .unset] [(.int ((q5 &&& (255 : Int32)).toUInt32.toUInt16.toUInt32.toInt32)), (.int 4), (.ref x355)])
  refine Own.Sit.stC hG S359 hx V359 ga_x355 ⟨by decide, by decide⟩ 4 rfl (Nat.le_of_ble_eq_true rfl) rfl rfl (hb hby at_76) (fun T360 h360 S360 J360 (V360 : Arv Z h360 x355 k355 .char (8 : Int32) [(.int (nar .char ((q4 &&& (255 : Int32)).toUInt32.toUInt16.toUInt32.toInt32))), (.int (nar .char ((((q4.toUInt32 >>> ((8 : Int32) &&& 31).toUInt32).toInt32) &&& (255 : Int32)).toUInt32.toUInt16.toUInt32.toInt32))), (.int (nar .char ((((q4.toUInt32 >>> ((16 : Int32) &&& 31).toUInt32).toInt32) &&& (255 : Int32)).toUInt32.toUInt16.toUInt32.toInt32))), (.int (nar .char ((((q4.toUInt32 >>> ((24 : Int32) &&& 31).toUInt32).toInt32) &&& (255 : Int32)).toUInt32.toUInt16.toUInt32.toInt32))), (.int (nar .char ((q5 &&& (255 : Int32)).toUInt32.toUInt16.toUInt32.toInt32))), (.int 0), (.int 0), (.int 0)] (.int 0)) => ?_)
  refine hG.st (fun t q => XS.aload S360.here hx rfl (hb hby at_77) rfl rfl (XS.iconst S360.here hx rfl (hb hby at_79) (XS.iload S360.here hx rfl (hb hby at_80) rfl (XS.bipush S360.here hx rfl (hb hby at_82) (XS.iushr S360.here hx rfl (hb hby at_84) rfl (XS.sipush S360.here hx rfl (hb hby at_85) q)))))) ?_
  show G T360 (mkF m 88 #[iv q0, iv q1, iv q2, iv q3, iv q4, iv q5, iv (((q0.toUInt32 >>> ((4 : Int32) &&& 31).toUInt32).toInt32) &&& (3 : Int32)), rv x355, .unset, .unset, .unset, .unset] [(.int 255), (.int ((q5.toUInt32 >>> ((8 : Int32) &&& 31).toUInt32).toInt32)), (.int 5), (.ref x355)])
  refine hG.st (fun t q => XS.iand S360.here hx rfl (hb hby at_88) rfl (XS.i2c S360.here hx rfl (hb hby at_89) rfl q)) ?_
  show G T360 (mkF m 90 #[iv q0, iv q1, iv q2, iv q3, iv q4, iv q5, iv (((q0.toUInt32 >>> ((4 : Int32) &&& 31).toUInt32).toInt32) &&& (3 : Int32)), rv x355, .unset, .unset, .unset, .unset] [(.int ((((q5.toUInt32 >>> ((8 : Int32) &&& 31).toUInt32).toInt32) &&& (255 : Int32)).toUInt32.toUInt16.toUInt32.toInt32)), (.int 5), (.ref x355)])
  refine Own.Sit.stC hG S360 hx V360 ga_x355 ⟨by decide, by decide⟩ 5 rfl (Nat.le_of_ble_eq_true rfl) rfl rfl (hb hby at_90) (fun T361 h361 S361 J361 (V361 : Arv Z h361 x355 k355 .char (8 : Int32) [(.int (nar .char ((q4 &&& (255 : Int32)).toUInt32.toUInt16.toUInt32.toInt32))), (.int (nar .char ((((q4.toUInt32 >>> ((8 : Int32) &&& 31).toUInt32).toInt32) &&& (255 : Int32)).toUInt32.toUInt16.toUInt32.toInt32))), (.int (nar .char ((((q4.toUInt32 >>> ((16 : Int32) &&& 31).toUInt32).toInt32) &&& (255 : Int32)).toUInt32.toUInt16.toUInt32.toInt32))), (.int (nar .char ((((q4.toUInt32 >>> ((24 : Int32) &&& 31).toUInt32).toInt32) &&& (255 : Int32)).toUInt32.toUInt16.toUInt32.toInt32))), (.int (nar .char ((q5 &&& (255 : Int32)).toUInt32.toUInt16.toUInt32.toInt32))), (.int (nar .char ((((q5.toUInt32 >>> ((8 : Int32) &&& 31).toUInt32).toInt32) &&& (255 : Int32)).toUInt32.toUInt16.toUInt32.toInt32))), (.int 0), (.int 0)] (.int 0)) => ?_)
  refine hG.st (fun t q => XS.aload S361.here hx rfl (hb hby at_91) rfl rfl (XS.bipush S361.here hx rfl (hb hby at_93) (XS.iload S361.here hx rfl (hb hby at_95) rfl (XS.bipush S361.here hx rfl (hb hby at_97) (XS.iushr S361.here hx rfl (hb hby at_99) rfl (XS.sipush S361.here hx rfl (hb hby at_100) q)))))) ?_
  show G T361 (mkF m 103 #[iv q0, iv q1, iv q2, iv q3, iv q4, iv q5, iv (((q0.toUInt32 >>> ((4 : Int32) &&& 31).toUInt32).toInt32) &&& (3 : Int32)), rv x355, .unset, .unset, .unset, .unset] [(.int 255), (.int ((q5.toUInt32 >>> ((16 : Int32) &&& 31).toUInt32).toInt32)), (.int 6), (.ref x355)])
  refine hG.st (fun t q => XS.iand S361.here hx rfl (hb hby at_103) rfl (XS.i2c S361.here hx rfl (hb hby at_104) rfl q)) ?_
  show G T361 (mkF m 105 #[iv q0, iv q1, iv q2, iv q3, iv q4, iv q5, iv (((q0.toUInt32 >>> ((4 : Int32) &&& 31).toUInt32).toInt32) &&& (3 : Int32)), rv x355, .unset, .unset, .unset, .unset] [(.int ((((q5.toUInt32 >>> ((16 : Int32) &&& 31).toUInt32).toInt32) &&& (255 : Int32)).toUInt32.toUInt16.toUInt32.toInt32)), (.int 6), (.ref x355)])
  refine Own.Sit.stC hG S361 hx V361 ga_x355 ⟨by decide, by decide⟩ 6 rfl (Nat.le_of_ble_eq_true rfl) rfl rfl (hb hby at_105) (fun T362 h362 S362 J362 (V362 : Arv Z h362 x355 k355 .char (8 : Int32) [(.int (nar .char ((q4 &&& (255 : Int32)).toUInt32.toUInt16.toUInt32.toInt32))), (.int (nar .char ((((q4.toUInt32 >>> ((8 : Int32) &&& 31).toUInt32).toInt32) &&& (255 : Int32)).toUInt32.toUInt16.toUInt32.toInt32))), (.int (nar .char ((((q4.toUInt32 >>> ((16 : Int32) &&& 31).toUInt32).toInt32) &&& (255 : Int32)).toUInt32.toUInt16.toUInt32.toInt32))), (.int (nar .char ((((q4.toUInt32 >>> ((24 : Int32) &&& 31).toUInt32).toInt32) &&& (255 : Int32)).toUInt32.toUInt16.toUInt32.toInt32))), (.int (nar .char ((q5 &&& (255 : Int32)).toUInt32.toUInt16.toUInt32.toInt32))), (.int (nar .char ((((q5.toUInt32 >>> ((8 : Int32) &&& 31).toUInt32).toInt32) &&& (255 : Int32)).toUInt32.toUInt16.toUInt32.toInt32))), (.int (nar .char ((((q5.toUInt32 >>> ((16 : Int32) &&& 31).toUInt32).toInt32) &&& (255 : Int32)).toUInt32.toUInt16.toUInt32.toInt32))), (.int 0)] (.int 0)) => ?_)
  refine hG.st (fun t q => XS.aload S362.here hx rfl (hb hby at_106) rfl rfl (XS.bipush S362.here hx rfl (hb hby at_108) (XS.iload S362.here hx rfl (hb hby at_110) rfl (XS.bipush S362.here hx rfl (hb hby at_112) (XS.iushr S362.here hx rfl (hb hby at_114) rfl (XS.sipush S362.here hx rfl (hb hby at_115) q)))))) ?_
  show G T362 (mkF m 118 #[iv q0, iv q1, iv q2, iv q3, iv q4, iv q5, iv (((q0.toUInt32 >>> ((4 : Int32) &&& 31).toUInt32).toInt32) &&& (3 : Int32)), rv x355, .unset, .unset, .unset, .unset] [(.int 255), (.int ((q5.toUInt32 >>> ((24 : Int32) &&& 31).toUInt32).toInt32)), (.int 7), (.ref x355)])
  refine hG.st (fun t q => XS.iand S362.here hx rfl (hb hby at_118) rfl (XS.i2c S362.here hx rfl (hb hby at_119) rfl q)) ?_
  show G T362 (mkF m 120 #[iv q0, iv q1, iv q2, iv q3, iv q4, iv q5, iv (((q0.toUInt32 >>> ((4 : Int32) &&& 31).toUInt32).toInt32) &&& (3 : Int32)), rv x355, .unset, .unset, .unset, .unset] [(.int ((((q5.toUInt32 >>> ((24 : Int32) &&& 31).toUInt32).toInt32) &&& (255 : Int32)).toUInt32.toUInt16.toUInt32.toInt32)), (.int 7), (.ref x355)])
  refine Own.Sit.stC hG S362 hx V362 ga_x355 ⟨by decide, by decide⟩ 7 rfl (Nat.le_of_ble_eq_true rfl) rfl rfl (hb hby at_120) (fun T363 h363 S363 J363 (V363 : Arv Z h363 x355 k355 .char (8 : Int32) [(.int (nar .char ((q4 &&& (255 : Int32)).toUInt32.toUInt16.toUInt32.toInt32))), (.int (nar .char ((((q4.toUInt32 >>> ((8 : Int32) &&& 31).toUInt32).toInt32) &&& (255 : Int32)).toUInt32.toUInt16.toUInt32.toInt32))), (.int (nar .char ((((q4.toUInt32 >>> ((16 : Int32) &&& 31).toUInt32).toInt32) &&& (255 : Int32)).toUInt32.toUInt16.toUInt32.toInt32))), (.int (nar .char ((((q4.toUInt32 >>> ((24 : Int32) &&& 31).toUInt32).toInt32) &&& (255 : Int32)).toUInt32.toUInt16.toUInt32.toInt32))), (.int (nar .char ((q5 &&& (255 : Int32)).toUInt32.toUInt16.toUInt32.toInt32))), (.int (nar .char ((((q5.toUInt32 >>> ((8 : Int32) &&& 31).toUInt32).toInt32) &&& (255 : Int32)).toUInt32.toUInt16.toUInt32.toInt32))), (.int (nar .char ((((q5.toUInt32 >>> ((16 : Int32) &&& 31).toUInt32).toInt32) &&& (255 : Int32)).toUInt32.toUInt16.toUInt32.toInt32))), (.int (nar .char ((((q5.toUInt32 >>> ((24 : Int32) &&& 31).toUInt32).toInt32) &&& (255 : Int32)).toUInt32.toUInt16.toUInt32.toInt32)))] (.int 0)) => ?_)
  refine hG.st (fun t q => XS.bipush S363.here hx rfl (hb hby at_121) (XS.istore S363.here hx rfl (hb hby at_123) rfl (l' := #[iv q0, iv q1, iv q2, iv q3, iv q4, iv q5, iv (((q0.toUInt32 >>> ((4 : Int32) &&& 31).toUInt32).toInt32) &&& (3 : Int32)), rv x355, iv 7, .unset, .unset, .unset]) rfl q)) ?_
  show G T363 (mkF m 125 #[iv q0, iv q1, iv q2, iv q3, iv q4, iv q5, iv (((q0.toUInt32 >>> ((4 : Int32) &&& 31).toUInt32).toInt32) &&& (3 : Int32)), rv x355, iv 7, .unset, .unset, .unset] [])
  have JA : ∀ (vm364 : Vm) (T364 : State) (h364 : Heap) (csA : List Int32) (ex : Int32) (ls : Int32) (ln : Int32), Own.Sit p l e room_1 s m #[(.int q0), (.int q1), (.int q2), (.int q3), (.int q4), (.int q5)] below meth c Z consts_1 "com/example/earnline/earnline/book/LedgerExportNamedPinLaw" vm364 T364 h364 8 512 → Own.Stp Z consts_1 vm0 h363 vm364 h364 [x355] → Arv Z h364 x355 k355 .char (8 : Int32) (csA.map Value.int) (.int 0) → csA.length = 8 → (∀ c ∈ csA, ¬ c < 0 ∧ ¬ (255 : Int32) < c) → G T364 (mkF m 284 #[iv q0, iv q1, iv q2, iv q3, iv q4, iv q5, iv (((q0.toUInt32 >>> ((4 : Int32) &&& 31).toUInt32).toInt32) &&& (3 : Int32)), rv x355, iv ex, iv ls, iv ln, .unset] []) := by
    intro vm364 T364 h364 csA ex ls ln S364 J364 Ax355 hlen hr
    show G T364 (mkF m 284 #[iv q0, iv q1, iv q2, iv q3, iv q4, iv q5, iv (((q0.toUInt32 >>> ((4 : Int32) &&& 31).toUInt32).toInt32) &&& (3 : Int32)), rv x355, iv ex, iv ls, iv ln, .unset] [])
    refine hG.st (fun t q => XS.iload S364.here hx rfl (hb hby at_284) rfl (XS.iconst S364.here hx rfl (hb hby at_286) q)) ?_
    show G T364 (mkF m 287 #[iv q0, iv q1, iv q2, iv q3, iv q4, iv q5, iv (((q0.toUInt32 >>> ((4 : Int32) &&& 31).toUInt32).toInt32) &&& (3 : Int32)), rv x355, iv ex, iv ls, iv ln, .unset] [(.int 3), (.int (((q0.toUInt32 >>> ((4 : Int32) &&& 31).toUInt32).toInt32) &&& (3 : Int32)))])
    by_cases hc287 : (((q0.toUInt32 >>> ((4 : Int32) &&& 31).toUInt32).toInt32) &&& (3 : Int32)) = (3 : Int32)
    ·
      refine hG.st (fun t q => XS.icmpNo S364.here hx rfl (hb hby at_287) rfl (teq hc287).2 (XS.aconstNull S364.here hx rfl (hb hby at_290) (XS.goto S364.here hx rfl (pc0 := 291) (pc' := 301) rfl (hb hby at_291) (by decide) (by decide) (XS.astore S364.here hx rfl (hb hby at_301) rfl rfl (l' := #[iv q0, iv q1, iv q2, iv q3, iv q4, iv q5, iv (((q0.toUInt32 >>> ((4 : Int32) &&& 31).toUInt32).toInt32) &&& (3 : Int32)), rv x355, iv ex, iv ls, iv ln, .val .null]) rfl (XS.aload S364.here hx rfl (hb hby at_303) rfl rfl q))))) ?_
      show G T364 (mkF m 305 #[iv q0, iv q1, iv q2, iv q3, iv q4, iv q5, iv (((q0.toUInt32 >>> ((4 : Int32) &&& 31).toUInt32).toInt32) &&& (3 : Int32)), rv x355, iv ex, iv ls, iv ln, .val .null] [.null])
      refine Own.Sit.callS hG S364 hx hEL (as := [.null]) (hW 34 _ rfl) (hW 35 _ rfl) (hW 36 _ rfl) (hW 37 _ rfl) (by decide) (own_namedN l Z a0 H N h364 S364.old) own_pde58a0d rfl rfl (hz _ rfl) (rest := []) rfl (W := 0) (Own.hw0 rfl rfl) (hb hby at_305) (by decide) (by decide) (by decide) (by decide) (fun v365 vm365 T365 h365 S365 C365 q365 => ?_)
      obtain ⟨K365, rfl⟩ := q365
      have J365 : Own.Stp Z consts_1 vm364 h364 vm365 h365 [] := ⟨K365, C365⟩
      refine hG.st (fun t q => XS.aload S365.here hx rfl (hb hby at_308) rfl rfl q) ?_
      show G T365 (mkF m 310 #[iv q0, iv q1, iv q2, iv q3, iv q4, iv q5, iv (((q0.toUInt32 >>> ((4 : Int32) &&& 31).toUInt32).toInt32) &&& (3 : Int32)), rv x355, iv ex, iv ls, iv ln, .val .null] [.null, .null])
      refine Own.Sit.callS hG S365 hx hEL (as := [.null]) (hW 65 _ rfl) (hW 66 _ rfl) (hW 3 _ rfl) (hW 67 _ rfl) (by decide) (own_expN l Z a0 H N h365 S365.old) own_pde58a0d rfl rfl (hz _ rfl) (rest := [.null]) rfl (W := 1) (Own.hw0 rfl rfl) (hb hby at_310) (by decide) (by decide) (by decide) (by decide) (fun v366 vm366 T366 h366 S366 C366 q366 => ?_)
      obtain ⟨K366, rfl⟩ := q366
      have J366 : Own.Stp Z consts_1 vm365 h365 vm366 h366 [] := ⟨K366, C366⟩
      show G T366 (mkF m 313 #[iv q0, iv q1, iv q2, iv q3, iv q4, iv q5, iv (((q0.toUInt32 >>> ((4 : Int32) &&& 31).toUInt32).toInt32) &&& (3 : Int32)), rv x355, iv ex, iv ls, iv ln, .val .null] [.null, .null])
      refine Own.Sit.acmp hG S366 hx (g := (mkF m 313 #[iv q0, iv q1, iv q2, iv q3, iv q4, iv q5, iv (((q0.toUInt32 >>> ((4 : Int32) &&& 31).toUInt32).toInt32) &&& (3 : Int32)), rv x355, iv ex, iv ls, iv ln, .val .null] [.null, .null])) rfl rfl rfl (pc0 := 313) (pc' := 316) (same := true) rfl (hb hby at_313) rfl (decide_eq_true rfl) (by decide) (by decide) ?_
      show G T366 (mkF m 316 #[iv q0, iv q1, iv q2, iv q3, iv q4, iv q5, iv (((q0.toUInt32 >>> ((4 : Int32) &&& 31).toUInt32).toInt32) &&& (3 : Int32)), rv x355, iv ex, iv ls, iv ln, .val .null] [])
      refine hG.st (fun t q => XS.iconst S366.here hx rfl (hb hby at_316) (XS.goto S366.here hx rfl (pc0 := 317) (pc' := 321) rfl (hb hby at_317) (by decide) (by decide) q)) ?_
      show G T366 (mkF m 321 #[iv q0, iv q1, iv q2, iv q3, iv q4, iv q5, iv (((q0.toUInt32 >>> ((4 : Int32) &&& 31).toUInt32).toInt32) &&& (3 : Int32)), rv x355, iv ex, iv ls, iv ln, .val .null] [(.int 1)])
      have J367 : Own.Stp Z consts_1 vm0 h0 vm0 h356 [] := Own.Stp.trans J355 J356 (all0) (allS (Or.inr (Nat.le_of_eq g_x355.symm)) all0)
      have J368 : Own.Stp Z consts_1 vm0 h0 vm0 h357 [] := Own.Stp.trans J367 J357 (all0) (allS (Or.inr (Nat.le_of_eq g_x355.symm)) all0)
      have J369 : Own.Stp Z consts_1 vm0 h0 vm0 h358 [] := Own.Stp.trans J368 J358 (all0) (allS (Or.inr (Nat.le_of_eq g_x355.symm)) all0)
      have J370 : Own.Stp Z consts_1 vm0 h0 vm0 h359 [] := Own.Stp.trans J369 J359 (all0) (allS (Or.inr (Nat.le_of_eq g_x355.symm)) all0)
      have J371 : Own.Stp Z consts_1 vm0 h0 vm0 h360 [] := Own.Stp.trans J370 J360 (all0) (allS (Or.inr (Nat.le_of_eq g_x355.symm)) all0)
      have J372 : Own.Stp Z consts_1 vm0 h0 vm0 h361 [] := Own.Stp.trans J371 J361 (all0) (allS (Or.inr (Nat.le_of_eq g_x355.symm)) all0)
      have J373 : Own.Stp Z consts_1 vm0 h0 vm0 h362 [] := Own.Stp.trans J372 J362 (all0) (allS (Or.inr (Nat.le_of_eq g_x355.symm)) all0)
      have J374 : Own.Stp Z consts_1 vm0 h0 vm0 h363 [] := Own.Stp.trans J373 J363 (all0) (allS (Or.inr (Nat.le_of_eq g_x355.symm)) all0)
      have J375 : Own.Stp Z consts_1 vm0 h0 vm364 h364 [] := Own.Stp.trans J374 J364 (all0) (allS (Or.inr (Nat.le_of_eq g_x355.symm)) all0)
      have J376 : Own.Stp Z consts_1 vm0 h0 vm365 h365 [] := Own.Stp.trans J375 J365 (all0) all0
      have J377 : Own.Stp Z consts_1 vm0 h0 vm366 h366 [] := Own.Stp.trans J376 J366 (all0) all0
      exact Own.Sit.retN hR S366 hx (t := .boolean) hret (by simp) (hb hby at_321) (by decide) (by decide) ⟨J377.1, rfl⟩
    ·
      refine hG.st (fun t q => XS.icmpYes S364.here hx rfl (pc0 := 287) (pc' := 294) rfl (hb hby at_287) rfl (feq hc287).2 (by decide) (by decide) (XS.aload S364.here hx rfl (hb hby at_294) rfl rfl (XS.iload S364.here hx rfl (hb hby at_296) rfl q))) ?_
      show G T364 (mkF m 298 #[iv q0, iv q1, iv q2, iv q3, iv q4, iv q5, iv (((q0.toUInt32 >>> ((4 : Int32) &&& 31).toUInt32).toInt32) &&& (3 : Int32)), rv x355, iv ex, iv ls, iv ln, .unset] [(.int ln), (.ref x355)])
      refine Own.Sit.callS hG S364 hx hEL (as := [(.ref x355), (.int ln)]) (hW 1 _ rfl) (hW 2 _ rfl) (hW 3 _ rfl) (hW 4 _ rfl) (by decide) (own_cut l Z a0 H x355 ln csA h364 S364.old Ax355 hlen hr) own_pde07951 rfl rfl (hz _ rfl) (rest := []) rfl (W := 0) (Own.hw0 rfl rfl) (hb hby at_298) (by decide) (by decide) (by decide) (by decide) (fun v378 vm378 T378 h378 S378 C378 q378 => ?_)
      obtain ⟨K378, x378, y378, cs378, rfl, St378, u378⟩ := q378
      have J378 : Own.Stp Z consts_1 vm364 h364 vm378 h378 [] := ⟨K378, C378⟩
      refine hG.st (fun t q => XS.astore S378.here hx rfl (hb hby at_301) rfl rfl (l' := #[iv q0, iv q1, iv q2, iv q3, iv q4, iv q5, iv (((q0.toUInt32 >>> ((4 : Int32) &&& 31).toUInt32).toInt32) &&& (3 : Int32)), rv x355, iv ex, iv ls, iv ln, rv x378]) rfl (XS.aload S378.here hx rfl (hb hby at_303) rfl rfl q)) ?_
      show G T378 (mkF m 305 #[iv q0, iv q1, iv q2, iv q3, iv q4, iv q5, iv (((q0.toUInt32 >>> ((4 : Int32) &&& 31).toUInt32).toInt32) &&& (3 : Int32)), rv x355, iv ex, iv ls, iv ln, rv x378] [(.ref x378)])
      refine Own.Sit.callS hG S378 hx hEL (as := [(.ref x378)]) (hW 34 _ rfl) (hW 35 _ rfl) (hW 36 _ rfl) (hW 37 _ rfl) (by decide) (own_named l Z a0 H x378 N y378 cs378 h378 S378.old St378) own_pde58a0d rfl rfl (hz _ rfl) (rest := []) rfl (W := 0) (Own.hw0 rfl rfl) (hb hby at_305) (by decide) (by decide) (by decide) (by decide) (fun v379 vm379 T379 h379 S379 C379 q379 => ?_)
      obtain ⟨K379, qq379⟩ := q379
      have J379 : Own.Stp Z consts_1 vm378 h378 vm379 h379 [] := ⟨K379, C379⟩
      rcases qq379 with ⟨qa379, rfl⟩ | ⟨qa379, rfl⟩ | ⟨qa379, rfl⟩
      ·
        refine hG.st (fun t q => XS.aload S379.here hx rfl (hb hby at_308) rfl rfl q) ?_
        show G T379 (mkF m 310 #[iv q0, iv q1, iv q2, iv q3, iv q4, iv q5, iv (((q0.toUInt32 >>> ((4 : Int32) &&& 31).toUInt32).toInt32) &&& (3 : Int32)), rv x355, iv ex, iv ls, iv ln, rv x378] [(.ref x378), (.ref kl)])
        have St380 := J379.str St378 nin0 nin0
        refine Own.Sit.callS hG S379 hx hEL (as := [(.ref x378)]) (hW 65 _ rfl) (hW 66 _ rfl) (hW 3 _ rfl) (hW 67 _ rfl) (by decide) (own_exp l Z a0 H x378 N y378 cs378 h379 S379.old St380) own_pde58a0d rfl rfl (hz _ rfl) (rest := [(.ref kl)]) rfl (W := 1) (Own.hw0 rfl rfl) (hb hby at_310) (by decide) (by decide) (by decide) (by decide) (fun v381 vm381 T381 h381 S381 C381 q381 => ?_)
        obtain ⟨K381, qq381⟩ := q381
        have J381 : Own.Stp Z consts_1 vm379 h379 vm381 h381 [] := ⟨K381, C381⟩
        rcases qq381 with ⟨qa381, rfl⟩ | ⟨qa381, rfl⟩ | ⟨qa381, rfl⟩
        ·
          show G T381 (mkF m 313 #[iv q0, iv q1, iv q2, iv q3, iv q4, iv q5, iv (((q0.toUInt32 >>> ((4 : Int32) &&& 31).toUInt32).toInt32) &&& (3 : Int32)), rv x355, iv ex, iv ls, iv ln, rv x378] [(.ref kl), (.ref kl)])
          refine Own.Sit.acmp hG S381 hx (g := (mkF m 313 #[iv q0, iv q1, iv q2, iv q3, iv q4, iv q5, iv (((q0.toUInt32 >>> ((4 : Int32) &&& 31).toUInt32).toInt32) &&& (3 : Int32)), rv x355, iv ex, iv ls, iv ln, rv x378] [(.ref kl), (.ref kl)])) rfl rfl rfl (pc0 := 313) (pc' := 316) (same := true) rfl (hb hby at_313) rfl (decide_eq_true rfl) (by decide) (by decide) ?_
          show G T381 (mkF m 316 #[iv q0, iv q1, iv q2, iv q3, iv q4, iv q5, iv (((q0.toUInt32 >>> ((4 : Int32) &&& 31).toUInt32).toInt32) &&& (3 : Int32)), rv x355, iv ex, iv ls, iv ln, rv x378] [])
          refine hG.st (fun t q => XS.iconst S381.here hx rfl (hb hby at_316) (XS.goto S381.here hx rfl (pc0 := 317) (pc' := 321) rfl (hb hby at_317) (by decide) (by decide) q)) ?_
          show G T381 (mkF m 321 #[iv q0, iv q1, iv q2, iv q3, iv q4, iv q5, iv (((q0.toUInt32 >>> ((4 : Int32) &&& 31).toUInt32).toInt32) &&& (3 : Int32)), rv x355, iv ex, iv ls, iv ln, rv x378] [(.int 1)])
          have J382 : Own.Stp Z consts_1 vm0 h0 vm0 h356 [] := Own.Stp.trans J355 J356 (all0) (allS (Or.inr (Nat.le_of_eq g_x355.symm)) all0)
          have J383 : Own.Stp Z consts_1 vm0 h0 vm0 h357 [] := Own.Stp.trans J382 J357 (all0) (allS (Or.inr (Nat.le_of_eq g_x355.symm)) all0)
          have J384 : Own.Stp Z consts_1 vm0 h0 vm0 h358 [] := Own.Stp.trans J383 J358 (all0) (allS (Or.inr (Nat.le_of_eq g_x355.symm)) all0)
          have J385 : Own.Stp Z consts_1 vm0 h0 vm0 h359 [] := Own.Stp.trans J384 J359 (all0) (allS (Or.inr (Nat.le_of_eq g_x355.symm)) all0)
          have J386 : Own.Stp Z consts_1 vm0 h0 vm0 h360 [] := Own.Stp.trans J385 J360 (all0) (allS (Or.inr (Nat.le_of_eq g_x355.symm)) all0)
          have J387 : Own.Stp Z consts_1 vm0 h0 vm0 h361 [] := Own.Stp.trans J386 J361 (all0) (allS (Or.inr (Nat.le_of_eq g_x355.symm)) all0)
          have J388 : Own.Stp Z consts_1 vm0 h0 vm0 h362 [] := Own.Stp.trans J387 J362 (all0) (allS (Or.inr (Nat.le_of_eq g_x355.symm)) all0)
          have J389 : Own.Stp Z consts_1 vm0 h0 vm0 h363 [] := Own.Stp.trans J388 J363 (all0) (allS (Or.inr (Nat.le_of_eq g_x355.symm)) all0)
          have J390 : Own.Stp Z consts_1 vm0 h0 vm364 h364 [] := Own.Stp.trans J389 J364 (all0) (allS (Or.inr (Nat.le_of_eq g_x355.symm)) all0)
          have J391 : Own.Stp Z consts_1 vm0 h0 vm378 h378 [] := Own.Stp.trans J390 J378 (all0) all0
          have J392 : Own.Stp Z consts_1 vm0 h0 vm379 h379 [] := Own.Stp.trans J391 J379 (all0) all0
          have J393 : Own.Stp Z consts_1 vm0 h0 vm381 h381 [] := Own.Stp.trans J392 J381 (all0) all0
          exact Own.Sit.retN hR S381 hx (t := .boolean) hret (by simp) (hb hby at_321) (by decide) (by decide) ⟨J393.1, rfl⟩
        ·
          exact absurd (qa379.trans qa381.symm) (by decide)
        ·
          exact absurd qa379 qa381.1
      ·
        refine hG.st (fun t q => XS.aload S379.here hx rfl (hb hby at_308) rfl rfl q) ?_
        show G T379 (mkF m 310 #[iv q0, iv q1, iv q2, iv q3, iv q4, iv q5, iv (((q0.toUInt32 >>> ((4 : Int32) &&& 31).toUInt32).toInt32) &&& (3 : Int32)), rv x355, iv ex, iv ls, iv ln, rv x378] [(.ref x378), (.ref kn)])
        have St394 := J379.str St378 nin0 nin0
        refine Own.Sit.callS hG S379 hx hEL (as := [(.ref x378)]) (hW 65 _ rfl) (hW 66 _ rfl) (hW 3 _ rfl) (hW 67 _ rfl) (by decide) (own_exp l Z a0 H x378 N y378 cs378 h379 S379.old St394) own_pde58a0d rfl rfl (hz _ rfl) (rest := [(.ref kn)]) rfl (W := 1) (Own.hw0 rfl rfl) (hb hby at_310) (by decide) (by decide) (by decide) (by decide) (fun v395 vm395 T395 h395 S395 C395 q395 => ?_)
        obtain ⟨K395, qq395⟩ := q395
        have J395 : Own.Stp Z consts_1 vm379 h379 vm395 h395 [] := ⟨K395, C395⟩
        rcases qq395 with ⟨qa395, rfl⟩ | ⟨qa395, rfl⟩ | ⟨qa395, rfl⟩
        ·
          exact absurd (qa379.trans qa395.symm) (by decide)
        ·
          show G T395 (mkF m 313 #[iv q0, iv q1, iv q2, iv q3, iv q4, iv q5, iv (((q0.toUInt32 >>> ((4 : Int32) &&& 31).toUInt32).toInt32) &&& (3 : Int32)), rv x355, iv ex, iv ls, iv ln, rv x378] [(.ref kn), (.ref kn)])
          refine Own.Sit.acmp hG S395 hx (g := (mkF m 313 #[iv q0, iv q1, iv q2, iv q3, iv q4, iv q5, iv (((q0.toUInt32 >>> ((4 : Int32) &&& 31).toUInt32).toInt32) &&& (3 : Int32)), rv x355, iv ex, iv ls, iv ln, rv x378] [(.ref kn), (.ref kn)])) rfl rfl rfl (pc0 := 313) (pc' := 316) (same := true) rfl (hb hby at_313) rfl (decide_eq_true rfl) (by decide) (by decide) ?_
          show G T395 (mkF m 316 #[iv q0, iv q1, iv q2, iv q3, iv q4, iv q5, iv (((q0.toUInt32 >>> ((4 : Int32) &&& 31).toUInt32).toInt32) &&& (3 : Int32)), rv x355, iv ex, iv ls, iv ln, rv x378] [])
          refine hG.st (fun t q => XS.iconst S395.here hx rfl (hb hby at_316) (XS.goto S395.here hx rfl (pc0 := 317) (pc' := 321) rfl (hb hby at_317) (by decide) (by decide) q)) ?_
          show G T395 (mkF m 321 #[iv q0, iv q1, iv q2, iv q3, iv q4, iv q5, iv (((q0.toUInt32 >>> ((4 : Int32) &&& 31).toUInt32).toInt32) &&& (3 : Int32)), rv x355, iv ex, iv ls, iv ln, rv x378] [(.int 1)])
          have J396 : Own.Stp Z consts_1 vm0 h0 vm0 h356 [] := Own.Stp.trans J355 J356 (all0) (allS (Or.inr (Nat.le_of_eq g_x355.symm)) all0)
          have J397 : Own.Stp Z consts_1 vm0 h0 vm0 h357 [] := Own.Stp.trans J396 J357 (all0) (allS (Or.inr (Nat.le_of_eq g_x355.symm)) all0)
          have J398 : Own.Stp Z consts_1 vm0 h0 vm0 h358 [] := Own.Stp.trans J397 J358 (all0) (allS (Or.inr (Nat.le_of_eq g_x355.symm)) all0)
          have J399 : Own.Stp Z consts_1 vm0 h0 vm0 h359 [] := Own.Stp.trans J398 J359 (all0) (allS (Or.inr (Nat.le_of_eq g_x355.symm)) all0)
          have J400 : Own.Stp Z consts_1 vm0 h0 vm0 h360 [] := Own.Stp.trans J399 J360 (all0) (allS (Or.inr (Nat.le_of_eq g_x355.symm)) all0)
          have J401 : Own.Stp Z consts_1 vm0 h0 vm0 h361 [] := Own.Stp.trans J400 J361 (all0) (allS (Or.inr (Nat.le_of_eq g_x355.symm)) all0)
          have J402 : Own.Stp Z consts_1 vm0 h0 vm0 h362 [] := Own.Stp.trans J401 J362 (all0) (allS (Or.inr (Nat.le_of_eq g_x355.symm)) all0)
          have J403 : Own.Stp Z consts_1 vm0 h0 vm0 h363 [] := Own.Stp.trans J402 J363 (all0) (allS (Or.inr (Nat.le_of_eq g_x355.symm)) all0)
          have J404 : Own.Stp Z consts_1 vm0 h0 vm364 h364 [] := Own.Stp.trans J403 J364 (all0) (allS (Or.inr (Nat.le_of_eq g_x355.symm)) all0)
          have J405 : Own.Stp Z consts_1 vm0 h0 vm378 h378 [] := Own.Stp.trans J404 J378 (all0) all0
          have J406 : Own.Stp Z consts_1 vm0 h0 vm379 h379 [] := Own.Stp.trans J405 J379 (all0) all0
          have J407 : Own.Stp Z consts_1 vm0 h0 vm395 h395 [] := Own.Stp.trans J406 J395 (all0) all0
          exact Own.Sit.retN hR S395 hx (t := .boolean) hret (by simp) (hb hby at_321) (by decide) (by decide) ⟨J407.1, rfl⟩
        ·
          exact absurd qa379 qa395.2
      ·
        refine hG.st (fun t q => XS.aload S379.here hx rfl (hb hby at_308) rfl rfl q) ?_
        show G T379 (mkF m 310 #[iv q0, iv q1, iv q2, iv q3, iv q4, iv q5, iv (((q0.toUInt32 >>> ((4 : Int32) &&& 31).toUInt32).toInt32) &&& (3 : Int32)), rv x355, iv ex, iv ls, iv ln, rv x378] [(.ref x378), .null])
        have St408 := J379.str St378 nin0 nin0
        refine Own.Sit.callS hG S379 hx hEL (as := [(.ref x378)]) (hW 65 _ rfl) (hW 66 _ rfl) (hW 3 _ rfl) (hW 67 _ rfl) (by decide) (own_exp l Z a0 H x378 N y378 cs378 h379 S379.old St408) own_pde58a0d rfl rfl (hz _ rfl) (rest := [.null]) rfl (W := 1) (Own.hw0 rfl rfl) (hb hby at_310) (by decide) (by decide) (by decide) (by decide) (fun v409 vm409 T409 h409 S409 C409 q409 => ?_)
        obtain ⟨K409, qq409⟩ := q409
        have J409 : Own.Stp Z consts_1 vm379 h379 vm409 h409 [] := ⟨K409, C409⟩
        rcases qq409 with ⟨qa409, rfl⟩ | ⟨qa409, rfl⟩ | ⟨qa409, rfl⟩
        ·
          exact absurd qa409 qa379.1
        ·
          exact absurd qa409 qa379.2
        ·
          show G T409 (mkF m 313 #[iv q0, iv q1, iv q2, iv q3, iv q4, iv q5, iv (((q0.toUInt32 >>> ((4 : Int32) &&& 31).toUInt32).toInt32) &&& (3 : Int32)), rv x355, iv ex, iv ls, iv ln, rv x378] [.null, .null])
          refine Own.Sit.acmp hG S409 hx (g := (mkF m 313 #[iv q0, iv q1, iv q2, iv q3, iv q4, iv q5, iv (((q0.toUInt32 >>> ((4 : Int32) &&& 31).toUInt32).toInt32) &&& (3 : Int32)), rv x355, iv ex, iv ls, iv ln, rv x378] [.null, .null])) rfl rfl rfl (pc0 := 313) (pc' := 316) (same := true) rfl (hb hby at_313) rfl (decide_eq_true rfl) (by decide) (by decide) ?_
          show G T409 (mkF m 316 #[iv q0, iv q1, iv q2, iv q3, iv q4, iv q5, iv (((q0.toUInt32 >>> ((4 : Int32) &&& 31).toUInt32).toInt32) &&& (3 : Int32)), rv x355, iv ex, iv ls, iv ln, rv x378] [])
          refine hG.st (fun t q => XS.iconst S409.here hx rfl (hb hby at_316) (XS.goto S409.here hx rfl (pc0 := 317) (pc' := 321) rfl (hb hby at_317) (by decide) (by decide) q)) ?_
          show G T409 (mkF m 321 #[iv q0, iv q1, iv q2, iv q3, iv q4, iv q5, iv (((q0.toUInt32 >>> ((4 : Int32) &&& 31).toUInt32).toInt32) &&& (3 : Int32)), rv x355, iv ex, iv ls, iv ln, rv x378] [(.int 1)])
          have J410 : Own.Stp Z consts_1 vm0 h0 vm0 h356 [] := Own.Stp.trans J355 J356 (all0) (allS (Or.inr (Nat.le_of_eq g_x355.symm)) all0)
          have J411 : Own.Stp Z consts_1 vm0 h0 vm0 h357 [] := Own.Stp.trans J410 J357 (all0) (allS (Or.inr (Nat.le_of_eq g_x355.symm)) all0)
          have J412 : Own.Stp Z consts_1 vm0 h0 vm0 h358 [] := Own.Stp.trans J411 J358 (all0) (allS (Or.inr (Nat.le_of_eq g_x355.symm)) all0)
          have J413 : Own.Stp Z consts_1 vm0 h0 vm0 h359 [] := Own.Stp.trans J412 J359 (all0) (allS (Or.inr (Nat.le_of_eq g_x355.symm)) all0)
          have J414 : Own.Stp Z consts_1 vm0 h0 vm0 h360 [] := Own.Stp.trans J413 J360 (all0) (allS (Or.inr (Nat.le_of_eq g_x355.symm)) all0)
          have J415 : Own.Stp Z consts_1 vm0 h0 vm0 h361 [] := Own.Stp.trans J414 J361 (all0) (allS (Or.inr (Nat.le_of_eq g_x355.symm)) all0)
          have J416 : Own.Stp Z consts_1 vm0 h0 vm0 h362 [] := Own.Stp.trans J415 J362 (all0) (allS (Or.inr (Nat.le_of_eq g_x355.symm)) all0)
          have J417 : Own.Stp Z consts_1 vm0 h0 vm0 h363 [] := Own.Stp.trans J416 J363 (all0) (allS (Or.inr (Nat.le_of_eq g_x355.symm)) all0)
          have J418 : Own.Stp Z consts_1 vm0 h0 vm364 h364 [] := Own.Stp.trans J417 J364 (all0) (allS (Or.inr (Nat.le_of_eq g_x355.symm)) all0)
          have J419 : Own.Stp Z consts_1 vm0 h0 vm378 h378 [] := Own.Stp.trans J418 J378 (all0) all0
          have J420 : Own.Stp Z consts_1 vm0 h0 vm379 h379 [] := Own.Stp.trans J419 J379 (all0) all0
          have J421 : Own.Stp Z consts_1 vm0 h0 vm409 h409 [] := Own.Stp.trans J420 J409 (all0) all0
          exact Own.Sit.retN hR S409 hx (t := .boolean) hret (by simp) (hb hby at_321) (by decide) (by decide) ⟨J421.1, rfl⟩
  have JB : ∀ (vm422 : Vm) (T422 : State) (h422 : Heap) (csA : List Int32) (ex : Int32), Own.Sit p l e room_1 s m #[(.int q0), (.int q1), (.int q2), (.int q3), (.int q4), (.int q5)] below meth c Z consts_1 "com/example/earnline/earnline/book/LedgerExportNamedPinLaw" vm422 T422 h422 8 512 → Own.Stp Z consts_1 vm0 h363 vm422 h422 [x355] → Arv Z h422 x355 k355 .char (8 : Int32) (csA.map Value.int) (.int 0) → csA.length = 8 → (∀ c ∈ csA, ¬ c < 0 ∧ ¬ (255 : Int32) < c) → G T422 (mkF m 226 #[iv q0, iv q1, iv q2, iv q3, iv q4, iv q5, iv (((q0.toUInt32 >>> ((4 : Int32) &&& 31).toUInt32).toInt32) &&& (3 : Int32)), rv x355, iv ex, .unset, .unset, .unset] []) := by
    intro vm422 T422 h422 csA ex S422 J422 Ax355 hlen hr
    show G T422 (mkF m 226 #[iv q0, iv q1, iv q2, iv q3, iv q4, iv q5, iv (((q0.toUInt32 >>> ((4 : Int32) &&& 31).toUInt32).toInt32) &&& (3 : Int32)), rv x355, iv ex, .unset, .unset, .unset] [])
    refine hG.st (fun t q => XS.iloadN S422.here hx rfl (hb hby at_226) rfl (XS.iconst S422.here hx rfl (hb hby at_227) (XS.iushr S422.here hx rfl (hb hby at_228) rfl (XS.iconst S422.here hx rfl (hb hby at_229) (XS.iand S422.here hx rfl (hb hby at_230) rfl (XS.istore S422.here hx rfl (hb hby at_231) rfl (l' := #[iv q0, iv q1, iv q2, iv q3, iv q4, iv q5, iv (((q0.toUInt32 >>> ((4 : Int32) &&& 31).toUInt32).toInt32) &&& (3 : Int32)), rv x355, iv ex, iv (((q0.toUInt32 >>> ((2 : Int32) &&& 31).toUInt32).toInt32) &&& (3 : Int32)), .unset, .unset]) rfl q)))))) ?_
    show G T422 (mkF m 233 #[iv q0, iv q1, iv q2, iv q3, iv q4, iv q5, iv (((q0.toUInt32 >>> ((4 : Int32) &&& 31).toUInt32).toInt32) &&& (3 : Int32)), rv x355, iv ex, iv (((q0.toUInt32 >>> ((2 : Int32) &&& 31).toUInt32).toInt32) &&& (3 : Int32)), .unset, .unset] [])
    refine hG.st (fun t q => XS.iload S422.here hx rfl (hb hby at_233) rfl q) ?_
    show G T422 (mkF m 235 #[iv q0, iv q1, iv q2, iv q3, iv q4, iv q5, iv (((q0.toUInt32 >>> ((4 : Int32) &&& 31).toUInt32).toInt32) &&& (3 : Int32)), rv x355, iv ex, iv (((q0.toUInt32 >>> ((2 : Int32) &&& 31).toUInt32).toInt32) &&& (3 : Int32)), .unset, .unset] [(.int (((q0.toUInt32 >>> ((2 : Int32) &&& 31).toUInt32).toInt32) &&& (3 : Int32)))])
    by_cases hc235 : (((q0.toUInt32 >>> ((2 : Int32) &&& 31).toUInt32).toInt32) &&& (3 : Int32)) = (0 : Int32)
    ·
      refine hG.st (fun t q => XS.ifNo S422.here hx rfl (hb hby at_235) rfl ((if0 _ _).trans (teq hc235).2) (XS.iload S422.here hx rfl (hb hby at_238) rfl (XS.istore S422.here hx rfl (hb hby at_240) rfl (l' := #[iv q0, iv q1, iv q2, iv q3, iv q4, iv q5, iv (((q0.toUInt32 >>> ((4 : Int32) &&& 31).toUInt32).toInt32) &&& (3 : Int32)), rv x355, iv ex, iv (((q0.toUInt32 >>> ((2 : Int32) &&& 31).toUInt32).toInt32) &&& (3 : Int32)), iv ex, .unset]) rfl (XS.goto S422.here hx rfl (pc0 := 242) (pc' := 284) rfl (hb hby at_242) (by decide) (by decide) q)))) ?_
      show G T422 (mkF m 284 #[iv q0, iv q1, iv q2, iv q3, iv q4, iv q5, iv (((q0.toUInt32 >>> ((4 : Int32) &&& 31).toUInt32).toInt32) &&& (3 : Int32)), rv x355, iv ex, iv (((q0.toUInt32 >>> ((2 : Int32) &&& 31).toUInt32).toInt32) &&& (3 : Int32)), iv ex, .unset] [])
      exact JA vm422 T422 h422 csA ex (((q0.toUInt32 >>> ((2 : Int32) &&& 31).toUInt32).toInt32) &&& (3 : Int32)) ex (S422.mono (by decide) (by decide)) J422 Ax355 hlen hr
    ·
      refine hG.st (fun t q => XS.ifYes S422.here hx rfl (pc0 := 235) (pc' := 245) rfl (hb hby at_235) rfl ((if0 _ _).trans (feq hc235).2) (by decide) (by decide) (XS.iload S422.here hx rfl (hb hby at_245) rfl (XS.iconst S422.here hx rfl (hb hby at_247) q))) ?_
      show G T422 (mkF m 248 #[iv q0, iv q1, iv q2, iv q3, iv q4, iv q5, iv (((q0.toUInt32 >>> ((4 : Int32) &&& 31).toUInt32).toInt32) &&& (3 : Int32)), rv x355, iv ex, iv (((q0.toUInt32 >>> ((2 : Int32) &&& 31).toUInt32).toInt32) &&& (3 : Int32)), .unset, .unset] [(.int 1), (.int (((q0.toUInt32 >>> ((2 : Int32) &&& 31).toUInt32).toInt32) &&& (3 : Int32)))])
      by_cases hc248 : (((q0.toUInt32 >>> ((2 : Int32) &&& 31).toUInt32).toInt32) &&& (3 : Int32)) = (1 : Int32)
      ·
        refine hG.st (fun t q => XS.icmpNo S422.here hx rfl (hb hby at_248) rfl (teq hc248).2 (XS.iload S422.here hx rfl (hb hby at_251) rfl (XS.iconst S422.here hx rfl (hb hby at_253) (XS.isub S422.here hx rfl (hb hby at_254) rfl (XS.istore S422.here hx rfl (hb hby at_255) rfl (l' := #[iv q0, iv q1, iv q2, iv q3, iv q4, iv q5, iv (((q0.toUInt32 >>> ((4 : Int32) &&& 31).toUInt32).toInt32) &&& (3 : Int32)), rv x355, iv ex, iv (((q0.toUInt32 >>> ((2 : Int32) &&& 31).toUInt32).toInt32) &&& (3 : Int32)), iv (ex - (1 : Int32)), .unset]) rfl (XS.goto S422.here hx rfl (pc0 := 257) (pc' := 284) rfl (hb hby at_257) (by decide) (by decide) q)))))) ?_
        show G T422 (mkF m 284 #[iv q0, iv q1, iv q2, iv q3, iv q4, iv q5, iv (((q0.toUInt32 >>> ((4 : Int32) &&& 31).toUInt32).toInt32) &&& (3 : Int32)), rv x355, iv ex, iv (((q0.toUInt32 >>> ((2 : Int32) &&& 31).toUInt32).toInt32) &&& (3 : Int32)), iv (ex - (1 : Int32)), .unset] [])
        exact JA vm422 T422 h422 csA ex (((q0.toUInt32 >>> ((2 : Int32) &&& 31).toUInt32).toInt32) &&& (3 : Int32)) (ex - (1 : Int32)) (S422.mono (by decide) (by decide)) J422 Ax355 hlen hr
      ·
        refine hG.st (fun t q => XS.icmpYes S422.here hx rfl (pc0 := 248) (pc' := 260) rfl (hb hby at_248) rfl (feq hc248).2 (by decide) (by decide) (XS.iload S422.here hx rfl (hb hby at_260) rfl (XS.iconst S422.here hx rfl (hb hby at_262) q))) ?_
        show G T422 (mkF m 263 #[iv q0, iv q1, iv q2, iv q3, iv q4, iv q5, iv (((q0.toUInt32 >>> ((4 : Int32) &&& 31).toUInt32).toInt32) &&& (3 : Int32)), rv x355, iv ex, iv (((q0.toUInt32 >>> ((2 : Int32) &&& 31).toUInt32).toInt32) &&& (3 : Int32)), .unset, .unset] [(.int 2), (.int (((q0.toUInt32 >>> ((2 : Int32) &&& 31).toUInt32).toInt32) &&& (3 : Int32)))])
        by_cases hc263 : (((q0.toUInt32 >>> ((2 : Int32) &&& 31).toUInt32).toInt32) &&& (3 : Int32)) = (2 : Int32)
        ·
          refine hG.st (fun t q => XS.icmpNo S422.here hx rfl (hb hby at_263) rfl (teq hc263).2 (XS.iload S422.here hx rfl (hb hby at_266) rfl (XS.iconst S422.here hx rfl (hb hby at_268) (XS.iadd S422.here hx rfl (hb hby at_269) rfl (XS.istore S422.here hx rfl (hb hby at_270) rfl (l' := #[iv q0, iv q1, iv q2, iv q3, iv q4, iv q5, iv (((q0.toUInt32 >>> ((4 : Int32) &&& 31).toUInt32).toInt32) &&& (3 : Int32)), rv x355, iv ex, iv (((q0.toUInt32 >>> ((2 : Int32) &&& 31).toUInt32).toInt32) &&& (3 : Int32)), iv (ex + (1 : Int32)), .unset]) rfl (XS.goto S422.here hx rfl (pc0 := 272) (pc' := 284) rfl (hb hby at_272) (by decide) (by decide) q)))))) ?_
          show G T422 (mkF m 284 #[iv q0, iv q1, iv q2, iv q3, iv q4, iv q5, iv (((q0.toUInt32 >>> ((4 : Int32) &&& 31).toUInt32).toInt32) &&& (3 : Int32)), rv x355, iv ex, iv (((q0.toUInt32 >>> ((2 : Int32) &&& 31).toUInt32).toInt32) &&& (3 : Int32)), iv (ex + (1 : Int32)), .unset] [])
          exact JA vm422 T422 h422 csA ex (((q0.toUInt32 >>> ((2 : Int32) &&& 31).toUInt32).toInt32) &&& (3 : Int32)) (ex + (1 : Int32)) (S422.mono (by decide) (by decide)) J422 Ax355 hlen hr
        ·
          refine hG.st (fun t q => XS.icmpYes S422.here hx rfl (pc0 := 263) (pc' := 275) rfl (hb hby at_263) rfl (feq hc263).2 (by decide) (by decide) (XS.iloadN S422.here hx rfl (hb hby at_275) rfl q)) ?_
          show G T422 (mkF m 276 #[iv q0, iv q1, iv q2, iv q3, iv q4, iv q5, iv (((q0.toUInt32 >>> ((4 : Int32) &&& 31).toUInt32).toInt32) &&& (3 : Int32)), rv x355, iv ex, iv (((q0.toUInt32 >>> ((2 : Int32) &&& 31).toUInt32).toInt32) &&& (3 : Int32)), .unset, .unset] [(.int q3)])
          refine Own.Sit.ldcI hG S422 hx (hW 76 _ rfl) rfl (hb hby at_276) ?_
          show G T422 (mkF m 278 #[iv q0, iv q1, iv q2, iv q3, iv q4, iv q5, iv (((q0.toUInt32 >>> ((4 : Int32) &&& 31).toUInt32).toInt32) &&& (3 : Int32)), rv x355, iv ex, iv (((q0.toUInt32 >>> ((2 : Int32) &&& 31).toUInt32).toInt32) &&& (3 : Int32)), .unset, .unset] [(.int 2147483647), (.int q3)])
          refine hG.st (fun t q => XS.iand S422.here hx rfl (hb hby at_278) rfl (XS.bipush S422.here hx rfl (hb hby at_279) (Own.irem S422.here hx rfl (hb hby at_281) rfl (by decide) (XS.istore S422.here hx rfl (hb hby at_282) rfl (l' := #[iv q0, iv q1, iv q2, iv q3, iv q4, iv q5, iv (((q0.toUInt32 >>> ((4 : Int32) &&& 31).toUInt32).toInt32) &&& (3 : Int32)), rv x355, iv ex, iv (((q0.toUInt32 >>> ((2 : Int32) &&& 31).toUInt32).toInt32) &&& (3 : Int32)), iv ((q3 &&& (2147483647 : Int32)) % (9 : Int32)), .unset]) rfl q)))) ?_
          show G T422 (mkF m 284 #[iv q0, iv q1, iv q2, iv q3, iv q4, iv q5, iv (((q0.toUInt32 >>> ((4 : Int32) &&& 31).toUInt32).toInt32) &&& (3 : Int32)), rv x355, iv ex, iv (((q0.toUInt32 >>> ((2 : Int32) &&& 31).toUInt32).toInt32) &&& (3 : Int32)), iv ((q3 &&& (2147483647 : Int32)) % (9 : Int32)), .unset] [])
          exact JA vm422 T422 h422 csA ex (((q0.toUInt32 >>> ((2 : Int32) &&& 31).toUInt32).toInt32) &&& (3 : Int32)) ((q3 &&& (2147483647 : Int32)) % (9 : Int32)) (S422.mono (by decide) (by decide)) J422 Ax355 hlen hr
  have JC : ∀ (vm423 : Vm) (T423 : State) (h423 : Heap) (csA : List Int32) (ex : Int32), Own.Sit p l e room_1 s m #[(.int q0), (.int q1), (.int q2), (.int q3), (.int q4), (.int q5)] below meth c Z consts_1 "com/example/earnline/earnline/book/LedgerExportNamedPinLaw" vm423 T423 h423 8 512 → Own.Stp Z consts_1 vm0 h363 vm423 h423 [x355] → Arv Z h423 x355 k355 .char (8 : Int32) (csA.map Value.int) (.int 0) → csA.length = 8 → (∀ c ∈ csA, ¬ c < 0 ∧ ¬ (255 : Int32) < c) → G T423 (mkF m 207 #[iv q0, iv q1, iv q2, iv q3, iv q4, iv q5, iv (((q0.toUInt32 >>> ((4 : Int32) &&& 31).toUInt32).toInt32) &&& (3 : Int32)), rv x355, iv ex, .unset, .unset, .unset] []) := by
    intro vm423 T423 h423 csA ex S423 J423 Ax355 hlen hr
    show G T423 (mkF m 207 #[iv q0, iv q1, iv q2, iv q3, iv q4, iv q5, iv (((q0.toUInt32 >>> ((4 : Int32) &&& 31).toUInt32).toInt32) &&& (3 : Int32)), rv x355, iv ex, .unset, .unset, .unset] [])
    refine hG.st (fun t q => XS.iloadN S423.here hx rfl (hb hby at_207) rfl (XS.iconst S423.here hx rfl (hb hby at_208) (XS.iand S423.here hx rfl (hb hby at_209) rfl q))) ?_
    show G T423 (mkF m 210 #[iv q0, iv q1, iv q2, iv q3, iv q4, iv q5, iv (((q0.toUInt32 >>> ((4 : Int32) &&& 31).toUInt32).toInt32) &&& (3 : Int32)), rv x355, iv ex, .unset, .unset, .unset] [(.int (q0 &&& (1 : Int32)))])
    by_cases hc210 : (q0 &&& (1 : Int32)) = (0 : Int32)
    ·
      refine hG.st (fun t q => XS.ifYes S423.here hx rfl (pc0 := 210) (pc' := 226) rfl (hb hby at_210) rfl ((if0 _ _).trans (teq hc210).1) (by decide) (by decide) q) ?_
      show G T423 (mkF m 226 #[iv q0, iv q1, iv q2, iv q3, iv q4, iv q5, iv (((q0.toUInt32 >>> ((4 : Int32) &&& 31).toUInt32).toInt32) &&& (3 : Int32)), rv x355, iv ex, .unset, .unset, .unset] [])
      exact JB vm423 T423 h423 csA ex (S423.mono (by decide) (by decide)) J423 Ax355 hlen hr
    ·
      refine hG.st (fun t q => XS.ifNo S423.here hx rfl (hb hby at_210) rfl ((if0 _ _).trans (feq hc210).1) (XS.aload S423.here hx rfl (hb hby at_213) rfl rfl (XS.iloadN S423.here hx rfl (hb hby at_215) rfl (XS.bipush S423.here hx rfl (hb hby at_216) (XS.iand S423.here hx rfl (hb hby at_218) rfl (XS.iloadN S423.here hx rfl (hb hby at_219) rfl q)))))) ?_
      show G T423 (mkF m 220 #[iv q0, iv q1, iv q2, iv q3, iv q4, iv q5, iv (((q0.toUInt32 >>> ((4 : Int32) &&& 31).toUInt32).toInt32) &&& (3 : Int32)), rv x355, iv ex, .unset, .unset, .unset] [(.int q2), (.int (q1 &&& (7 : Int32))), (.ref x355)])
      refine hG.st (fun t q => XS.sipush S423.here hx rfl (hb hby at_220) (XS.iand S423.here hx rfl (hb hby at_223) rfl (XS.i2c S423.here hx rfl (hb hby at_224) rfl q))) ?_
      show G T423 (mkF m 225 #[iv q0, iv q1, iv q2, iv q3, iv q4, iv q5, iv (((q0.toUInt32 >>> ((4 : Int32) &&& 31).toUInt32).toInt32) &&& (3 : Int32)), rv x355, iv ex, .unset, .unset, .unset] [(.int ((q2 &&& (255 : Int32)).toUInt32.toUInt16.toUInt32.toInt32)), (.int (q1 &&& (7 : Int32))), (.ref x355)])
      refine Own.Sit.stC hG S423 hx Ax355 ga_x355 (own_and7 _) (q1 &&& (7 : Int32)).toNatClampNeg rfl (by rw [List.length_map, hlen]; exact own_lt8 (own_and7 _)) rfl rfl (hb hby at_225) (fun T424 h424 S424 J424 V424 => ?_)
      rw [← List.map_set] at V424
      have J425 : Own.Stp Z consts_1 vm0 h363 vm423 h424 [x355] := Own.Stp.trans J423 J424 (allS (List.mem_of_getElem? (i := 0) rfl) (all0)) (allS (Or.inl (List.mem_of_getElem? (i := 0) rfl)) all0)
      show G T424 (mkF m 226 #[iv q0, iv q1, iv q2, iv q3, iv q4, iv q5, iv (((q0.toUInt32 >>> ((4 : Int32) &&& 31).toUInt32).toInt32) &&& (3 : Int32)), rv x355, iv ex, .unset, .unset, .unset] [])
      exact JB vm423 T424 h424 (csA.set (q1 &&& (7 : Int32)).toNatClampNeg (nar .char ((q2 &&& (255 : Int32)).toUInt32.toUInt16.toUInt32.toInt32))) ex (S424.mono (by decide) (by decide)) J425 V424 (by rw [List.length_set]; exact hlen) (own_setr hr (Own.and255 _))
  refine hG.st (fun t q => XS.iload S363.here hx rfl (hb hby at_125) rfl q) ?_
  show G T363 (mkF m 127 #[iv q0, iv q1, iv q2, iv q3, iv q4, iv q5, iv (((q0.toUInt32 >>> ((4 : Int32) &&& 31).toUInt32).toInt32) &&& (3 : Int32)), rv x355, iv 7, .unset, .unset, .unset] [(.int (((q0.toUInt32 >>> ((4 : Int32) &&& 31).toUInt32).toInt32) &&& (3 : Int32)))])
  by_cases hc127 : (((q0.toUInt32 >>> ((4 : Int32) &&& 31).toUInt32).toInt32) &&& (3 : Int32)) = (0 : Int32)
  ·
    refine hG.st (fun t q => XS.ifNo S363.here hx rfl (hb hby at_127) rfl ((if0 _ _).trans (teq hc127).2) (XS.aload S363.here hx rfl (hb hby at_130) rfl rfl (XS.iconst S363.here hx rfl (hb hby at_132) (XS.bipush S363.here hx rfl (hb hby at_133) q)))) ?_
    show G T363 (mkF m 135 #[iv q0, iv q1, iv q2, iv q3, iv q4, iv q5, iv (((q0.toUInt32 >>> ((4 : Int32) &&& 31).toUInt32).toInt32) &&& (3 : Int32)), rv x355, iv 7, .unset, .unset, .unset] [(.int 106), (.int 0), (.ref x355)])
    refine Own.Sit.stC hG S363 hx V363 ga_x355 ⟨by decide, by decide⟩ 0 rfl (Nat.le_of_ble_eq_true rfl) rfl rfl (hb hby at_135) (fun T426 h426 S426 J426 (V426 : Arv Z h426 x355 k355 .char (8 : Int32) [(.int 106), (.int (nar .char ((((q4.toUInt32 >>> ((8 : Int32) &&& 31).toUInt32).toInt32) &&& (255 : Int32)).toUInt32.toUInt16.toUInt32.toInt32))), (.int (nar .char ((((q4.toUInt32 >>> ((16 : Int32) &&& 31).toUInt32).toInt32) &&& (255 : Int32)).toUInt32.toUInt16.toUInt32.toInt32))), (.int (nar .char ((((q4.toUInt32 >>> ((24 : Int32) &&& 31).toUInt32).toInt32) &&& (255 : Int32)).toUInt32.toUInt16.toUInt32.toInt32))), (.int (nar .char ((q5 &&& (255 : Int32)).toUInt32.toUInt16.toUInt32.toInt32))), (.int (nar .char ((((q5.toUInt32 >>> ((8 : Int32) &&& 31).toUInt32).toInt32) &&& (255 : Int32)).toUInt32.toUInt16.toUInt32.toInt32))), (.int (nar .char ((((q5.toUInt32 >>> ((16 : Int32) &&& 31).toUInt32).toInt32) &&& (255 : Int32)).toUInt32.toUInt16.toUInt32.toInt32))), (.int (nar .char ((((q5.toUInt32 >>> ((24 : Int32) &&& 31).toUInt32).toInt32) &&& (255 : Int32)).toUInt32.toUInt16.toUInt32.toInt32)))] (.int 0)) => ?_)
    refine hG.st (fun t q => XS.aload S426.here hx rfl (hb hby at_136) rfl rfl (XS.iconst S426.here hx rfl (hb hby at_138) (XS.bipush S426.here hx rfl (hb hby at_139) q))) ?_
    show G T426 (mkF m 141 #[iv q0, iv q1, iv q2, iv q3, iv q4, iv q5, iv (((q0.toUInt32 >>> ((4 : Int32) &&& 31).toUInt32).toInt32) &&& (3 : Int32)), rv x355, iv 7, .unset, .unset, .unset] [(.int 111), (.int 1), (.ref x355)])
    refine Own.Sit.stC hG S426 hx V426 ga_x355 ⟨by decide, by decide⟩ 1 rfl (Nat.le_of_ble_eq_true rfl) rfl rfl (hb hby at_141) (fun T427 h427 S427 J427 (V427 : Arv Z h427 x355 k355 .char (8 : Int32) [(.int 106), (.int 111), (.int (nar .char ((((q4.toUInt32 >>> ((16 : Int32) &&& 31).toUInt32).toInt32) &&& (255 : Int32)).toUInt32.toUInt16.toUInt32.toInt32))), (.int (nar .char ((((q4.toUInt32 >>> ((24 : Int32) &&& 31).toUInt32).toInt32) &&& (255 : Int32)).toUInt32.toUInt16.toUInt32.toInt32))), (.int (nar .char ((q5 &&& (255 : Int32)).toUInt32.toUInt16.toUInt32.toInt32))), (.int (nar .char ((((q5.toUInt32 >>> ((8 : Int32) &&& 31).toUInt32).toInt32) &&& (255 : Int32)).toUInt32.toUInt16.toUInt32.toInt32))), (.int (nar .char ((((q5.toUInt32 >>> ((16 : Int32) &&& 31).toUInt32).toInt32) &&& (255 : Int32)).toUInt32.toUInt16.toUInt32.toInt32))), (.int (nar .char ((((q5.toUInt32 >>> ((24 : Int32) &&& 31).toUInt32).toInt32) &&& (255 : Int32)).toUInt32.toUInt16.toUInt32.toInt32)))] (.int 0)) => ?_)
    refine hG.st (fun t q => XS.aload S427.here hx rfl (hb hby at_142) rfl rfl (XS.iconst S427.here hx rfl (hb hby at_144) (XS.bipush S427.here hx rfl (hb hby at_145) q))) ?_
    show G T427 (mkF m 147 #[iv q0, iv q1, iv q2, iv q3, iv q4, iv q5, iv (((q0.toUInt32 >>> ((4 : Int32) &&& 31).toUInt32).toInt32) &&& (3 : Int32)), rv x355, iv 7, .unset, .unset, .unset] [(.int 117), (.int 2), (.ref x355)])
    refine Own.Sit.stC hG S427 hx V427 ga_x355 ⟨by decide, by decide⟩ 2 rfl (Nat.le_of_ble_eq_true rfl) rfl rfl (hb hby at_147) (fun T428 h428 S428 J428 (V428 : Arv Z h428 x355 k355 .char (8 : Int32) [(.int 106), (.int 111), (.int 117), (.int (nar .char ((((q4.toUInt32 >>> ((24 : Int32) &&& 31).toUInt32).toInt32) &&& (255 : Int32)).toUInt32.toUInt16.toUInt32.toInt32))), (.int (nar .char ((q5 &&& (255 : Int32)).toUInt32.toUInt16.toUInt32.toInt32))), (.int (nar .char ((((q5.toUInt32 >>> ((8 : Int32) &&& 31).toUInt32).toInt32) &&& (255 : Int32)).toUInt32.toUInt16.toUInt32.toInt32))), (.int (nar .char ((((q5.toUInt32 >>> ((16 : Int32) &&& 31).toUInt32).toInt32) &&& (255 : Int32)).toUInt32.toUInt16.toUInt32.toInt32))), (.int (nar .char ((((q5.toUInt32 >>> ((24 : Int32) &&& 31).toUInt32).toInt32) &&& (255 : Int32)).toUInt32.toUInt16.toUInt32.toInt32)))] (.int 0)) => ?_)
    refine hG.st (fun t q => XS.aload S428.here hx rfl (hb hby at_148) rfl rfl (XS.iconst S428.here hx rfl (hb hby at_150) (XS.bipush S428.here hx rfl (hb hby at_151) q))) ?_
    show G T428 (mkF m 153 #[iv q0, iv q1, iv q2, iv q3, iv q4, iv q5, iv (((q0.toUInt32 >>> ((4 : Int32) &&& 31).toUInt32).toInt32) &&& (3 : Int32)), rv x355, iv 7, .unset, .unset, .unset] [(.int 114), (.int 3), (.ref x355)])
    refine Own.Sit.stC hG S428 hx V428 ga_x355 ⟨by decide, by decide⟩ 3 rfl (Nat.le_of_ble_eq_true rfl) rfl rfl (hb hby at_153) (fun T429 h429 S429 J429 (V429 : Arv Z h429 x355 k355 .char (8 : Int32) [(.int 106), (.int 111), (.int 117), (.int 114), (.int (nar .char ((q5 &&& (255 : Int32)).toUInt32.toUInt16.toUInt32.toInt32))), (.int (nar .char ((((q5.toUInt32 >>> ((8 : Int32) &&& 31).toUInt32).toInt32) &&& (255 : Int32)).toUInt32.toUInt16.toUInt32.toInt32))), (.int (nar .char ((((q5.toUInt32 >>> ((16 : Int32) &&& 31).toUInt32).toInt32) &&& (255 : Int32)).toUInt32.toUInt16.toUInt32.toInt32))), (.int (nar .char ((((q5.toUInt32 >>> ((24 : Int32) &&& 31).toUInt32).toInt32) &&& (255 : Int32)).toUInt32.toUInt16.toUInt32.toInt32)))] (.int 0)) => ?_)
    refine hG.st (fun t q => XS.aload S429.here hx rfl (hb hby at_154) rfl rfl (XS.iconst S429.here hx rfl (hb hby at_156) (XS.bipush S429.here hx rfl (hb hby at_157) q))) ?_
    show G T429 (mkF m 159 #[iv q0, iv q1, iv q2, iv q3, iv q4, iv q5, iv (((q0.toUInt32 >>> ((4 : Int32) &&& 31).toUInt32).toInt32) &&& (3 : Int32)), rv x355, iv 7, .unset, .unset, .unset] [(.int 110), (.int 4), (.ref x355)])
    refine Own.Sit.stC hG S429 hx V429 ga_x355 ⟨by decide, by decide⟩ 4 rfl (Nat.le_of_ble_eq_true rfl) rfl rfl (hb hby at_159) (fun T430 h430 S430 J430 (V430 : Arv Z h430 x355 k355 .char (8 : Int32) [(.int 106), (.int 111), (.int 117), (.int 114), (.int 110), (.int (nar .char ((((q5.toUInt32 >>> ((8 : Int32) &&& 31).toUInt32).toInt32) &&& (255 : Int32)).toUInt32.toUInt16.toUInt32.toInt32))), (.int (nar .char ((((q5.toUInt32 >>> ((16 : Int32) &&& 31).toUInt32).toInt32) &&& (255 : Int32)).toUInt32.toUInt16.toUInt32.toInt32))), (.int (nar .char ((((q5.toUInt32 >>> ((24 : Int32) &&& 31).toUInt32).toInt32) &&& (255 : Int32)).toUInt32.toUInt16.toUInt32.toInt32)))] (.int 0)) => ?_)
    refine hG.st (fun t q => XS.aload S430.here hx rfl (hb hby at_160) rfl rfl (XS.iconst S430.here hx rfl (hb hby at_162) (XS.bipush S430.here hx rfl (hb hby at_163) q))) ?_
    show G T430 (mkF m 165 #[iv q0, iv q1, iv q2, iv q3, iv q4, iv q5, iv (((q0.toUInt32 >>> ((4 : Int32) &&& 31).toUInt32).toInt32) &&& (3 : Int32)), rv x355, iv 7, .unset, .unset, .unset] [(.int 97), (.int 5), (.ref x355)])
    refine Own.Sit.stC hG S430 hx V430 ga_x355 ⟨by decide, by decide⟩ 5 rfl (Nat.le_of_ble_eq_true rfl) rfl rfl (hb hby at_165) (fun T431 h431 S431 J431 (V431 : Arv Z h431 x355 k355 .char (8 : Int32) [(.int 106), (.int 111), (.int 117), (.int 114), (.int 110), (.int 97), (.int (nar .char ((((q5.toUInt32 >>> ((16 : Int32) &&& 31).toUInt32).toInt32) &&& (255 : Int32)).toUInt32.toUInt16.toUInt32.toInt32))), (.int (nar .char ((((q5.toUInt32 >>> ((24 : Int32) &&& 31).toUInt32).toInt32) &&& (255 : Int32)).toUInt32.toUInt16.toUInt32.toInt32)))] (.int 0)) => ?_)
    refine hG.st (fun t q => XS.aload S431.here hx rfl (hb hby at_166) rfl rfl (XS.bipush S431.here hx rfl (hb hby at_168) (XS.bipush S431.here hx rfl (hb hby at_170) q))) ?_
    show G T431 (mkF m 172 #[iv q0, iv q1, iv q2, iv q3, iv q4, iv q5, iv (((q0.toUInt32 >>> ((4 : Int32) &&& 31).toUInt32).toInt32) &&& (3 : Int32)), rv x355, iv 7, .unset, .unset, .unset] [(.int 108), (.int 6), (.ref x355)])
    refine Own.Sit.stC hG S431 hx V431 ga_x355 ⟨by decide, by decide⟩ 6 rfl (Nat.le_of_ble_eq_true rfl) rfl rfl (hb hby at_172) (fun T432 h432 S432 J432 (V432 : Arv Z h432 x355 k355 .char (8 : Int32) [(.int 106), (.int 111), (.int 117), (.int 114), (.int 110), (.int 97), (.int 108), (.int (nar .char ((((q5.toUInt32 >>> ((24 : Int32) &&& 31).toUInt32).toInt32) &&& (255 : Int32)).toUInt32.toUInt16.toUInt32.toInt32)))] (.int 0)) => ?_)
    refine hG.st (fun t q => XS.bipush S432.here hx rfl (hb hby at_173) (XS.istore S432.here hx rfl (hb hby at_175) rfl (l' := #[iv q0, iv q1, iv q2, iv q3, iv q4, iv q5, iv (((q0.toUInt32 >>> ((4 : Int32) &&& 31).toUInt32).toInt32) &&& (3 : Int32)), rv x355, iv 7, .unset, .unset, .unset]) rfl (XS.goto S432.here hx rfl (pc0 := 177) (pc' := 207) rfl (hb hby at_177) (by decide) (by decide) q))) ?_
    show G T432 (mkF m 207 #[iv q0, iv q1, iv q2, iv q3, iv q4, iv q5, iv (((q0.toUInt32 >>> ((4 : Int32) &&& 31).toUInt32).toInt32) &&& (3 : Int32)), rv x355, iv 7, .unset, .unset, .unset] [])
    have hp433 : ∀ c ∈ ([(106 : Int32), (111 : Int32), (117 : Int32), (114 : Int32), (110 : Int32), (97 : Int32), (108 : Int32), (nar .char ((((q5.toUInt32 >>> ((24 : Int32) &&& 31).toUInt32).toInt32) &&& (255 : Int32)).toUInt32.toUInt16.toUInt32.toInt32))] : List Int32), ¬ c < 0 ∧ ¬ (255 : Int32) < c := by
      intro c hc
      simp only [List.mem_cons, List.not_mem_nil, or_false] at hc
      rcases hc with rfl | rfl | rfl | rfl | rfl | rfl | rfl | rfl
      · decide
      · decide
      · decide
      · decide
      · decide
      · decide
      · decide
      · exact Own.and255 _
    have J434 : Own.Stp Z consts_1 vm0 h363 vm0 h427 [x355] := Own.Stp.trans J426 J427 (allS (List.mem_of_getElem? (i := 0) rfl) (all0)) (allS (Or.inl (List.mem_of_getElem? (i := 0) rfl)) all0)
    have J435 : Own.Stp Z consts_1 vm0 h363 vm0 h428 [x355] := Own.Stp.trans J434 J428 (allS (List.mem_of_getElem? (i := 0) rfl) (all0)) (allS (Or.inl (List.mem_of_getElem? (i := 0) rfl)) all0)
    have J436 : Own.Stp Z consts_1 vm0 h363 vm0 h429 [x355] := Own.Stp.trans J435 J429 (allS (List.mem_of_getElem? (i := 0) rfl) (all0)) (allS (Or.inl (List.mem_of_getElem? (i := 0) rfl)) all0)
    have J437 : Own.Stp Z consts_1 vm0 h363 vm0 h430 [x355] := Own.Stp.trans J436 J430 (allS (List.mem_of_getElem? (i := 0) rfl) (all0)) (allS (Or.inl (List.mem_of_getElem? (i := 0) rfl)) all0)
    have J438 : Own.Stp Z consts_1 vm0 h363 vm0 h431 [x355] := Own.Stp.trans J437 J431 (allS (List.mem_of_getElem? (i := 0) rfl) (all0)) (allS (Or.inl (List.mem_of_getElem? (i := 0) rfl)) all0)
    have J439 : Own.Stp Z consts_1 vm0 h363 vm0 h432 [x355] := Own.Stp.trans J438 J432 (allS (List.mem_of_getElem? (i := 0) rfl) (all0)) (allS (Or.inl (List.mem_of_getElem? (i := 0) rfl)) all0)
    exact JC vm0 T432 h432 ([(106 : Int32), (111 : Int32), (117 : Int32), (114 : Int32), (110 : Int32), (97 : Int32), (108 : Int32), (nar .char ((((q5.toUInt32 >>> ((24 : Int32) &&& 31).toUInt32).toInt32) &&& (255 : Int32)).toUInt32.toUInt16.toUInt32.toInt32))] : List Int32) (7 : Int32) (S432.mono (by decide) (by decide)) J439 V432 rfl hp433
  ·
    refine hG.st (fun t q => XS.ifYes S363.here hx rfl (pc0 := 127) (pc' := 180) rfl (hb hby at_127) rfl ((if0 _ _).trans (feq hc127).2) (by decide) (by decide) (XS.iload S363.here hx rfl (hb hby at_180) rfl (XS.iconst S363.here hx rfl (hb hby at_182) q))) ?_
    show G T363 (mkF m 183 #[iv q0, iv q1, iv q2, iv q3, iv q4, iv q5, iv (((q0.toUInt32 >>> ((4 : Int32) &&& 31).toUInt32).toInt32) &&& (3 : Int32)), rv x355, iv 7, .unset, .unset, .unset] [(.int 1), (.int (((q0.toUInt32 >>> ((4 : Int32) &&& 31).toUInt32).toInt32) &&& (3 : Int32)))])
    by_cases hc183 : (((q0.toUInt32 >>> ((4 : Int32) &&& 31).toUInt32).toInt32) &&& (3 : Int32)) = (1 : Int32)
    ·
      refine hG.st (fun t q => XS.icmpNo S363.here hx rfl (hb hby at_183) rfl (teq hc183).2 (XS.aload S363.here hx rfl (hb hby at_186) rfl rfl (XS.iconst S363.here hx rfl (hb hby at_188) (XS.bipush S363.here hx rfl (hb hby at_189) q)))) ?_
      show G T363 (mkF m 191 #[iv q0, iv q1, iv q2, iv q3, iv q4, iv q5, iv (((q0.toUInt32 >>> ((4 : Int32) &&& 31).toUInt32).toInt32) &&& (3 : Int32)), rv x355, iv 7, .unset, .unset, .unset] [(.int 99), (.int 0), (.ref x355)])
      refine Own.Sit.stC hG S363 hx V363 ga_x355 ⟨by decide, by decide⟩ 0 rfl (Nat.le_of_ble_eq_true rfl) rfl rfl (hb hby at_191) (fun T440 h440 S440 J440 (V440 : Arv Z h440 x355 k355 .char (8 : Int32) [(.int 99), (.int (nar .char ((((q4.toUInt32 >>> ((8 : Int32) &&& 31).toUInt32).toInt32) &&& (255 : Int32)).toUInt32.toUInt16.toUInt32.toInt32))), (.int (nar .char ((((q4.toUInt32 >>> ((16 : Int32) &&& 31).toUInt32).toInt32) &&& (255 : Int32)).toUInt32.toUInt16.toUInt32.toInt32))), (.int (nar .char ((((q4.toUInt32 >>> ((24 : Int32) &&& 31).toUInt32).toInt32) &&& (255 : Int32)).toUInt32.toUInt16.toUInt32.toInt32))), (.int (nar .char ((q5 &&& (255 : Int32)).toUInt32.toUInt16.toUInt32.toInt32))), (.int (nar .char ((((q5.toUInt32 >>> ((8 : Int32) &&& 31).toUInt32).toInt32) &&& (255 : Int32)).toUInt32.toUInt16.toUInt32.toInt32))), (.int (nar .char ((((q5.toUInt32 >>> ((16 : Int32) &&& 31).toUInt32).toInt32) &&& (255 : Int32)).toUInt32.toUInt16.toUInt32.toInt32))), (.int (nar .char ((((q5.toUInt32 >>> ((24 : Int32) &&& 31).toUInt32).toInt32) &&& (255 : Int32)).toUInt32.toUInt16.toUInt32.toInt32)))] (.int 0)) => ?_)
      refine hG.st (fun t q => XS.aload S440.here hx rfl (hb hby at_192) rfl rfl (XS.iconst S440.here hx rfl (hb hby at_194) (XS.bipush S440.here hx rfl (hb hby at_195) q))) ?_
      show G T440 (mkF m 197 #[iv q0, iv q1, iv q2, iv q3, iv q4, iv q5, iv (((q0.toUInt32 >>> ((4 : Int32) &&& 31).toUInt32).toInt32) &&& (3 : Int32)), rv x355, iv 7, .unset, .unset, .unset] [(.int 115), (.int 1), (.ref x355)])
      refine Own.Sit.stC hG S440 hx V440 ga_x355 ⟨by decide, by decide⟩ 1 rfl (Nat.le_of_ble_eq_true rfl) rfl rfl (hb hby at_197) (fun T441 h441 S441 J441 (V441 : Arv Z h441 x355 k355 .char (8 : Int32) [(.int 99), (.int 115), (.int (nar .char ((((q4.toUInt32 >>> ((16 : Int32) &&& 31).toUInt32).toInt32) &&& (255 : Int32)).toUInt32.toUInt16.toUInt32.toInt32))), (.int (nar .char ((((q4.toUInt32 >>> ((24 : Int32) &&& 31).toUInt32).toInt32) &&& (255 : Int32)).toUInt32.toUInt16.toUInt32.toInt32))), (.int (nar .char ((q5 &&& (255 : Int32)).toUInt32.toUInt16.toUInt32.toInt32))), (.int (nar .char ((((q5.toUInt32 >>> ((8 : Int32) &&& 31).toUInt32).toInt32) &&& (255 : Int32)).toUInt32.toUInt16.toUInt32.toInt32))), (.int (nar .char ((((q5.toUInt32 >>> ((16 : Int32) &&& 31).toUInt32).toInt32) &&& (255 : Int32)).toUInt32.toUInt16.toUInt32.toInt32))), (.int (nar .char ((((q5.toUInt32 >>> ((24 : Int32) &&& 31).toUInt32).toInt32) &&& (255 : Int32)).toUInt32.toUInt16.toUInt32.toInt32)))] (.int 0)) => ?_)
      refine hG.st (fun t q => XS.aload S441.here hx rfl (hb hby at_198) rfl rfl (XS.iconst S441.here hx rfl (hb hby at_200) (XS.bipush S441.here hx rfl (hb hby at_201) q))) ?_
      show G T441 (mkF m 203 #[iv q0, iv q1, iv q2, iv q3, iv q4, iv q5, iv (((q0.toUInt32 >>> ((4 : Int32) &&& 31).toUInt32).toInt32) &&& (3 : Int32)), rv x355, iv 7, .unset, .unset, .unset] [(.int 118), (.int 2), (.ref x355)])
      refine Own.Sit.stC hG S441 hx V441 ga_x355 ⟨by decide, by decide⟩ 2 rfl (Nat.le_of_ble_eq_true rfl) rfl rfl (hb hby at_203) (fun T442 h442 S442 J442 (V442 : Arv Z h442 x355 k355 .char (8 : Int32) [(.int 99), (.int 115), (.int 118), (.int (nar .char ((((q4.toUInt32 >>> ((24 : Int32) &&& 31).toUInt32).toInt32) &&& (255 : Int32)).toUInt32.toUInt16.toUInt32.toInt32))), (.int (nar .char ((q5 &&& (255 : Int32)).toUInt32.toUInt16.toUInt32.toInt32))), (.int (nar .char ((((q5.toUInt32 >>> ((8 : Int32) &&& 31).toUInt32).toInt32) &&& (255 : Int32)).toUInt32.toUInt16.toUInt32.toInt32))), (.int (nar .char ((((q5.toUInt32 >>> ((16 : Int32) &&& 31).toUInt32).toInt32) &&& (255 : Int32)).toUInt32.toUInt16.toUInt32.toInt32))), (.int (nar .char ((((q5.toUInt32 >>> ((24 : Int32) &&& 31).toUInt32).toInt32) &&& (255 : Int32)).toUInt32.toUInt16.toUInt32.toInt32)))] (.int 0)) => ?_)
      refine hG.st (fun t q => XS.iconst S442.here hx rfl (hb hby at_204) (XS.istore S442.here hx rfl (hb hby at_205) rfl (l' := #[iv q0, iv q1, iv q2, iv q3, iv q4, iv q5, iv (((q0.toUInt32 >>> ((4 : Int32) &&& 31).toUInt32).toInt32) &&& (3 : Int32)), rv x355, iv 3, .unset, .unset, .unset]) rfl q)) ?_
      show G T442 (mkF m 207 #[iv q0, iv q1, iv q2, iv q3, iv q4, iv q5, iv (((q0.toUInt32 >>> ((4 : Int32) &&& 31).toUInt32).toInt32) &&& (3 : Int32)), rv x355, iv 3, .unset, .unset, .unset] [])
      have hp443 : ∀ c ∈ ([(99 : Int32), (115 : Int32), (118 : Int32), (nar .char ((((q4.toUInt32 >>> ((24 : Int32) &&& 31).toUInt32).toInt32) &&& (255 : Int32)).toUInt32.toUInt16.toUInt32.toInt32)), (nar .char ((q5 &&& (255 : Int32)).toUInt32.toUInt16.toUInt32.toInt32)), (nar .char ((((q5.toUInt32 >>> ((8 : Int32) &&& 31).toUInt32).toInt32) &&& (255 : Int32)).toUInt32.toUInt16.toUInt32.toInt32)), (nar .char ((((q5.toUInt32 >>> ((16 : Int32) &&& 31).toUInt32).toInt32) &&& (255 : Int32)).toUInt32.toUInt16.toUInt32.toInt32)), (nar .char ((((q5.toUInt32 >>> ((24 : Int32) &&& 31).toUInt32).toInt32) &&& (255 : Int32)).toUInt32.toUInt16.toUInt32.toInt32))] : List Int32), ¬ c < 0 ∧ ¬ (255 : Int32) < c := by
        intro c hc
        simp only [List.mem_cons, List.not_mem_nil, or_false] at hc
        rcases hc with rfl | rfl | rfl | rfl | rfl | rfl | rfl | rfl
        · decide
        · decide
        · decide
        · exact Own.and255 _
        · exact Own.and255 _
        · exact Own.and255 _
        · exact Own.and255 _
        · exact Own.and255 _
      have J444 : Own.Stp Z consts_1 vm0 h363 vm0 h441 [x355] := Own.Stp.trans J440 J441 (allS (List.mem_of_getElem? (i := 0) rfl) (all0)) (allS (Or.inl (List.mem_of_getElem? (i := 0) rfl)) all0)
      have J445 : Own.Stp Z consts_1 vm0 h363 vm0 h442 [x355] := Own.Stp.trans J444 J442 (allS (List.mem_of_getElem? (i := 0) rfl) (all0)) (allS (Or.inl (List.mem_of_getElem? (i := 0) rfl)) all0)
      exact JC vm0 T442 h442 ([(99 : Int32), (115 : Int32), (118 : Int32), (nar .char ((((q4.toUInt32 >>> ((24 : Int32) &&& 31).toUInt32).toInt32) &&& (255 : Int32)).toUInt32.toUInt16.toUInt32.toInt32)), (nar .char ((q5 &&& (255 : Int32)).toUInt32.toUInt16.toUInt32.toInt32)), (nar .char ((((q5.toUInt32 >>> ((8 : Int32) &&& 31).toUInt32).toInt32) &&& (255 : Int32)).toUInt32.toUInt16.toUInt32.toInt32)), (nar .char ((((q5.toUInt32 >>> ((16 : Int32) &&& 31).toUInt32).toInt32) &&& (255 : Int32)).toUInt32.toUInt16.toUInt32.toInt32)), (nar .char ((((q5.toUInt32 >>> ((24 : Int32) &&& 31).toUInt32).toInt32) &&& (255 : Int32)).toUInt32.toUInt16.toUInt32.toInt32))] : List Int32) (3 : Int32) (S442.mono (by decide) (by decide)) J445 V442 rfl hp443
    ·
      refine hG.st (fun t q => XS.icmpYes S363.here hx rfl (pc0 := 183) (pc' := 207) rfl (hb hby at_183) rfl (feq hc183).2 (by decide) (by decide) q) ?_
      show G T363 (mkF m 207 #[iv q0, iv q1, iv q2, iv q3, iv q4, iv q5, iv (((q0.toUInt32 >>> ((4 : Int32) &&& 31).toUInt32).toInt32) &&& (3 : Int32)), rv x355, iv 7, .unset, .unset, .unset] [])
      have hp446 : ∀ c ∈ ([(nar .char ((q4 &&& (255 : Int32)).toUInt32.toUInt16.toUInt32.toInt32)), (nar .char ((((q4.toUInt32 >>> ((8 : Int32) &&& 31).toUInt32).toInt32) &&& (255 : Int32)).toUInt32.toUInt16.toUInt32.toInt32)), (nar .char ((((q4.toUInt32 >>> ((16 : Int32) &&& 31).toUInt32).toInt32) &&& (255 : Int32)).toUInt32.toUInt16.toUInt32.toInt32)), (nar .char ((((q4.toUInt32 >>> ((24 : Int32) &&& 31).toUInt32).toInt32) &&& (255 : Int32)).toUInt32.toUInt16.toUInt32.toInt32)), (nar .char ((q5 &&& (255 : Int32)).toUInt32.toUInt16.toUInt32.toInt32)), (nar .char ((((q5.toUInt32 >>> ((8 : Int32) &&& 31).toUInt32).toInt32) &&& (255 : Int32)).toUInt32.toUInt16.toUInt32.toInt32)), (nar .char ((((q5.toUInt32 >>> ((16 : Int32) &&& 31).toUInt32).toInt32) &&& (255 : Int32)).toUInt32.toUInt16.toUInt32.toInt32)), (nar .char ((((q5.toUInt32 >>> ((24 : Int32) &&& 31).toUInt32).toInt32) &&& (255 : Int32)).toUInt32.toUInt16.toUInt32.toInt32))] : List Int32), ¬ c < 0 ∧ ¬ (255 : Int32) < c := by
        intro c hc
        simp only [List.mem_cons, List.not_mem_nil, or_false] at hc
        rcases hc with rfl | rfl | rfl | rfl | rfl | rfl | rfl | rfl
        · exact Own.and255 _
        · exact Own.and255 _
        · exact Own.and255 _
        · exact Own.and255 _
        · exact Own.and255 _
        · exact Own.and255 _
        · exact Own.and255 _
        · exact Own.and255 _
      exact JC vm0 T363 h363 ([(nar .char ((q4 &&& (255 : Int32)).toUInt32.toUInt16.toUInt32.toInt32)), (nar .char ((((q4.toUInt32 >>> ((8 : Int32) &&& 31).toUInt32).toInt32) &&& (255 : Int32)).toUInt32.toUInt16.toUInt32.toInt32)), (nar .char ((((q4.toUInt32 >>> ((16 : Int32) &&& 31).toUInt32).toInt32) &&& (255 : Int32)).toUInt32.toUInt16.toUInt32.toInt32)), (nar .char ((((q4.toUInt32 >>> ((24 : Int32) &&& 31).toUInt32).toInt32) &&& (255 : Int32)).toUInt32.toUInt16.toUInt32.toInt32)), (nar .char ((q5 &&& (255 : Int32)).toUInt32.toUInt16.toUInt32.toInt32)), (nar .char ((((q5.toUInt32 >>> ((8 : Int32) &&& 31).toUInt32).toInt32) &&& (255 : Int32)).toUInt32.toUInt16.toUInt32.toInt32)), (nar .char ((((q5.toUInt32 >>> ((16 : Int32) &&& 31).toUInt32).toInt32) &&& (255 : Int32)).toUInt32.toUInt16.toUInt32.toInt32)), (nar .char ((((q5.toUInt32 >>> ((24 : Int32) &&& 31).toUInt32).toInt32) &&& (255 : Int32)).toUInt32.toUInt16.toUInt32.toInt32))] : List Int32) (7 : Int32) (S363.mono (by decide) (by decide)) (Own.Stp.mono (Own.Stp.refl S363.ch) all0) V363 rfl hp446
set_option maxRecDepth 65536 in
set_option maxHeartbeats 40000000 in
theorem own_comes {Post : Tables → Env → Array Value → State → Outcome → State → Prop} (hpost : ∀ tb e args s v u, (limb_1_1.after args s (.returned v) u = true ∧ limb_1_2.after args s (.returned v) u = true ∧ True) → ReturnedEndW s (.returned v) u (Jvm.fieldLocs frame_1_writes args s ++ Jvm.arrayLocs frame_1_arrays args s ++ Jvm.staticLocs frame_1_statics s) 24 3264 → Post tb e args s (.returned v) u) :
    ArmFor flags0 classFile x code maxLocals ret World_1 tables_1 room_1 Calls_1 rest_1 Pre_1 Post := by
  intro l hfl _ _ p e ha hc hk s m args below hf hA hF happ hP
  obtain ⟨hcalls, hrest, hpre⟩ := hP
  obtain ⟨-, -, -, hnamed, -, -, -, hat⟩ := (Spec.applies_iff hf).mp happ
  obtain ⟨hg, hn⟩ := and_e (Cond.before_iff.mp (show (Jvm.Cond.and given_1 narrow_1).before args s = true from hpre))
  obtain ⟨hcount, hg0⟩ := and_e hg
  obtain ⟨ha0, hg1⟩ := and_e hg0
  obtain ⟨ha1, hg2⟩ := and_e hg1
  obtain ⟨ha2, hg3⟩ := and_e hg2
  obtain ⟨ha3, hg4⟩ := and_e hg3
  obtain ⟨ha4, hg5⟩ := and_e hg4
  have ha5 := hg5
  obtain ⟨w0, w1, w2, w3, w4, w5, rfl⟩ : ∃ w0 w1 w2 w3 w4 w5 : Value, args = #[w0, w1, w2, w3, w4, w5] := by
    have hs : args.size = 6 := by simpa [Cond.value, given_1] using hcount
    obtain ⟨L⟩ := args
    match L, hs with
    | [w0, w1, w2, w3, w4, w5], _ => exact ⟨w0, w1, w2, w3, w4, w5, rfl⟩
  have hw := fun d (hd : d ∈ tables_1) => atoms_spec (ws := Jvm.Cond.code x code maxLocals ret :: tables_1) hat d (List.mem_cons_of_mem _ hd)
  have hW := fun (i : Nat) (w : Jvm.Cond) (e : tables_1[i]? = some w) => hw w (List.mem_of_getElem? e)
  obtain ⟨hsets, hown0⟩ := atoms_of _ (rest_1_c_eq ▸ (show rest_1_c.before _ s = true from hrest))
  have hfit : Fit s := fun {y c} hc i hi => by
    obtain ⟨ha, rfl⟩ := Array.getElem?_eq_some_iff.mp hc
    have q := List.all_eq_true.mp ((Array.all_eq_true_iff_forall_mem.mp hF) _ (Array.getElem_mem ha)) i (List.mem_range.mpr hi)
    simpa [Array.getElem?_eq_getElem hi] using q
  obtain ⟨i0, ea0⟩ := is_v ha0
  obtain rfl : w0 = (.int i0) := Option.some.inj ea0
  obtain ⟨i1, ea1⟩ := is_v ha1
  obtain rfl : w1 = (.int i1) := Option.some.inj ea1
  obtain ⟨i2, ea2⟩ := is_v ha2
  obtain rfl : w2 = (.int i2) := Option.some.inj ea2
  obtain ⟨i3, ea3⟩ := is_v ha3
  obtain rfl : w3 = (.int i3) := Option.some.inj ea3
  obtain ⟨i4, ea4⟩ := is_v ha4
  obtain rfl : w4 = (.int i4) := Option.some.inj ea4
  obtain ⟨i5, ea5⟩ := is_v ha5
  obtain rfl : w5 = (.int i5) := Option.some.inj ea5
  have ncs := not_v (Cond.before_iff.mp (hsets _ (List.mem_of_getElem? (i := 2) rfl)))
  obtain ⟨zcs, ecs⟩ := is_v (Cond.before_iff.mp (hsets _ (List.mem_of_getElem? (i := 1) rfl)))
  have hCm : Own.Cmp s := ⟨zcs, Sta.start ecs (Or.inl (hsets _ (List.mem_of_getElem? (i := 0) rfl))), gotF (Cond.eq_ints ecs (Term.int_eval (0))) ncs⟩
  obtain ⟨vsi, esi, rsi⟩ := isR_v (Cond.before_iff.mp (hsets _ (List.mem_of_getElem? (i := 8) rfl)))
  have hSi : Own.Sio s := ⟨vsi, Sta.start esi (Or.inl (hsets _ (List.mem_of_getElem? (i := 7) rfl))), rsi⟩
  have hEL : EW s _ consts_1 := (EW.cons (hW 68 _ rfl) (by decide) (EW.cons (hW 75 _ rfl) (by decide) (EW.cons (hW 79 _ rfl) (by decide) EW.nil)))
  have hCH : CHv s consts_1 s.vm s.heap := CHv.start hEL (fun p hp => hcalls.1 p hp) (hsets _ (List.mem_of_getElem? (i := 2) rfl)) (hW 23 _ rfl) (hW 6 _ rfl)
  have HW : own_Wld s _ := ⟨hw, hCm, hSi, hEL⟩
  obtain ⟨nw0, hn1⟩ := and_e hn
  obtain ⟨nw1, hn2⟩ := and_e hn1
  obtain ⟨nw2, hn3⟩ := and_e hn2
  obtain ⟨nw3, hn4⟩ := and_e hn3
  obtain ⟨nw4, hn5⟩ := and_e hn4
  obtain ⟨nw5, hn6⟩ := and_e hn5
  obtain ⟨nw6, hn7⟩ := and_e hn6
  obtain ⟨nw7, hn8⟩ := and_e hn7
  obtain ⟨nw8, hn9⟩ := and_e hn8
  obtain ⟨nw9, hn10⟩ := and_e hn9
  obtain ⟨nw10, hn11⟩ := and_e hn10
  obtain ⟨nw11, hn12⟩ := and_e hn11
  obtain ⟨nw12, hn13⟩ := and_e hn12
  obtain ⟨nw13, hn14⟩ := and_e hn13
  obtain ⟨nw14, hn15⟩ := and_e hn14
  obtain ⟨nw15, hn16⟩ := and_e hn15
  obtain ⟨nw16, hn17⟩ := and_e hn16
  obtain ⟨nw17, hn18⟩ := and_e hn17
  obtain ⟨nw18, hn19⟩ := and_e hn18
  obtain ⟨nw19, hn20⟩ := and_e hn19
  obtain ⟨nw20, hn21⟩ := and_e hn20
  obtain ⟨nw21, hn22⟩ := and_e hn21
  obtain ⟨nw22, hn23⟩ := and_e hn22
  obtain ⟨nw23, hn24⟩ := and_e hn23
  have nw24 := hn24
  obtain ⟨ad1, evad1⟩ := arr_v nw0
  have EXad1 := Exa.start evad1 nw1
  have ei2 := Own.eqI nw2 (Term.int_eval (2))
  obtain ⟨ad2, evad2⟩ := exa_v nw3
  have EXad2 := Exa.start evad2 nw3
  obtain ⟨ad3, evad3⟩ := exa_v nw4
  have EXad3 := Exa.start evad3 nw4
  obtain ⟨ad4, evad4⟩ := exa_v nw5
  have EXad4 := Exa.start evad4 nw5
  have ei6 := Own.eqI nw6 (Term.int_eval (0))
  obtain ⟨ad5, evad5⟩ := arr_v nw7
  have ei8 := Own.eqI nw8 (Term.int_eval (7))
  have ei9 := Own.eqR nw9 evad2
  obtain ⟨ad6, evad6⟩ := exa_v nw10
  have EXad6 := Exa.start evad6 nw10
  have ei11 := Own.eqI nw11 (Term.int_eval (0))
  obtain ⟨ad7, evad7⟩ := arr_v nw12
  have ei13 := Own.eqI nw13 (Term.int_eval (3))
  have ei14 := Own.eqI nw14 (Term.int_eval (99))
  have ei15 := Own.eqI nw15 (Term.int_eval (115))
  have ei16 := Own.eqI nw16 (Term.int_eval (118))
  have ei17 := Own.eqR nw17 evad3
  have ei18 := Own.eqI nw18 (Term.int_eval (106))
  have ei19 := Own.eqI nw19 (Term.int_eval (111))
  have ei20 := Own.eqI nw20 (Term.int_eval (117))
  have ei21 := Own.eqI nw21 (Term.int_eval (114))
  have ei22 := Own.eqI nw22 (Term.int_eval (110))
  have ei23 := Own.eqI nw23 (Term.int_eval (97))
  have ei24 := Own.eqI nw24 (Term.int_eval (108))
  have Sv : Sta s s.heap "com/example/earnline/earnline/book/LedgerExport" "$VALUES" "[Lcom/example/earnline/earnline/book/LedgerExport;" (.ref ad1) := Sta.start evad1 (Or.inr ⟨(hW 36 _ rfl), (hW 42 _ rfl)⟩)
  obtain ⟨kcad1, AVad1⟩ := Own.arvOf (dv := .null) (vs := [(.ref ad2), (.ref ad3)]) hfit evad1 nw0 nw2 (by decide) rfl (by
      intro i hi
      match i, hi with
      | 0, _ => exact evad2
      | 1, _ => exact evad3)
  have Sl : Sta s s.heap "com/example/earnline/earnline/book/LedgerExport" "JOURNAL" "Lcom/example/earnline/earnline/book/LedgerExport;" (.ref ad2) := Sta.start ei9 (Or.inr ⟨(hW 36 _ rfl), (hW 73 _ rfl)⟩)
  have Sn : Sta s s.heap "com/example/earnline/earnline/book/LedgerExport" "CSV" "Lcom/example/earnline/earnline/book/LedgerExport;" (.ref ad3) := Sta.start ei17 (Or.inr ⟨(hW 36 _ rfl), (hW 78 _ rfl)⟩)
  have Fkl : Fld s s.heap ad2 "com/example/earnline/earnline/book/LedgerExport" "format" "Ljava/lang/String;" (.ref ad4) := Fld.start ((fld_at evad2).symm.trans evad4)
  have Fkn : Fld s s.heap ad3 "com/example/earnline/earnline/book/LedgerExport" "format" "Ljava/lang/String;" (.ref ad6) := Fld.start ((fld_at evad3).symm.trans evad6)
  have STad4 : Own.Str s s.heap ad4 ad5 [106, 111, 117, 114, 110, 97, 108] := Own.strOf hfit evad4 EXad4 ei6 evad5 nw7 nw8 (by decide) (by decide) (by decide) (by
      intro i hi
      match i, hi with
      | 0, _ => exact ei18
      | 1, _ => exact ei19
      | 2, _ => exact ei20
      | 3, _ => exact ei21
      | 4, _ => exact ei22
      | 5, _ => exact ei23
      | 6, _ => exact ei24)
  have STad6 : Own.Str s s.heap ad6 ad7 [99, 115, 118] := Own.strOf hfit evad6 EXad6 ei11 evad7 nw12 nw13 (by decide) (by decide) (by decide) (by
      intro i hi
      match i, hi with
      | 0, _ => exact ei14
      | 1, _ => exact ei15
      | 2, _ => exact ei16)
  have HN : own_En s ad2 ad3 ad1 ad4 ad5 ad6 ad7 _ := ⟨Sl, Sn, Sv, AVad1, EXad1, EXad2, EXad3, Fkl, Fkn, STad4, STad6⟩
  obtain ⟨n, o, h1, h2, h3, _, L, rfl, ⟨⟨-, rfl⟩, N⟩, -, hq⟩ := own_law l s _ HW (cw := tables_1) i0 i1 i2 i3 i4 i5 HN s.heap ⟨Nat.le_refl _, fun _ _ q => q⟩ p e ha hc hk s m _ below hf ((Spec.applies_iff_loose hf).mp happ).1 ⟨rfl, State.Warmed39.refl s, rfl, hCH⟩ trivial
  exact ⟨n, _, h1, h2, h3, hpost _ _ _ _ _ _ ⟨Cond.after_iff.mpr rfl, Cond.after_iff.mpr (eq_i res_at (Term.int_eval (1)) rfl), trivial⟩ ⟨hq.1, hq.2.1, hq.2.2.1, hq.2.2.2.sift fun y hy => Or.inr (N y hy)⟩⟩
theorem main_1_1 : Claimed_1_1 := own_comes fun _ _ _ _ _ _ h hF => ⟨h.1, hF⟩
theorem main_1_2 : Claimed_1_2 := own_comes fun _ _ _ _ _ _ h hF => ⟨h.2.1, hF⟩
end Jvm.Pilot.@@N@@
namespace Jvm.Pilot.@@N@@
open Jvm Jvm.ClassFile Sem Op Lib Jvm.Free Jvm.Stand Jvm.Pilot.@@N@@.Jvm.D
/-! MADE BY PROGRAM (witnessworld.py) out of the Statement's table words and the real class files: 24 classes; the members and pool entries that the words name. The judged class is class 1, her method 1. -/
namespace start1
open Jvm.ClassFile
def u (s : String) : CpInfo := .utf8 (stringToUtf16 s)
/-- a pool by its gaps: so many unusable entries, then the entry; so many at the end -/
def gap : Nat → List CpInfo → List CpInfo
  | 0, r => r
  | n + 1, r => .unusable :: gap n r
def poolList (es : List (Nat × CpInfo)) (last : Nat) : List CpInfo := es.foldr (fun e r => gap e.1 (e.2 :: r)) (gap last [])
def pool (es : List (Nat × CpInfo)) (last : Nat) : Array CpInfo := ⟨poolList es last⟩
def fileOf (pool : Array CpInfo) (this : Nat) (attrs : Array Attribute := #[]) (ms : Array MethodInfo := #[]) (fl : Nat := 33) (sup : Nat := 0) (ifs : Array Nat := #[]) (fds : Array FieldInfo := #[]) : ClassFile where
  minorVersion := 0
  majorVersion := 65
  constantPool := pool
  accessFlags := fl
  thisClass := this
  superClass := sup
  interfaces := ifs
  fields := fds
  methods := ms
  attributes := attrs
def plain (name : String) (sup : Option ClassId) : Class where
  name := name
  kind := .ordinary
  loader := none
  accessFlags := 33
  super := sup
  interfaces := #[]
  cf := none
  fields := #[]
  methods := #[]
  instanceTypes := #[]
  staticTypes := #[]
  resolved := #[]
  callSites := []
  init := .initialized
  statics := none
  mirror := none

def pool0 : Array CpInfo := pool [(5, u "<init>"), (0, u "()V"), (1, .class_ 10), (1, u "java/lang/Object"), (85, u "clone"), (0, u "()Ljava/lang/Object;")] 26

def k0c0 : Code := { maxStack := 0, maxLocals := 1, code := object_method_1_code, exceptionTable := #[], attributes := #[] }
def k0m0 : Method := { name := "<init>", desc := "()V", sig := { parameters := [], returnType := none }, accessFlags := 1, code := some k0c0 }
def k0m1 : Method := { name := "clone", desc := "()Ljava/lang/Object;", sig := { parameters := [], returnType := some (.object "java/lang/Object") }, accessFlags := 260, code := none }
/-- java/lang/Object -/
def k0 : Class := { plain "java/lang/Object" none with
  accessFlags := 33
  interfaces := #[]
  cf := some (fileOf pool0 8 #[] #[{ accessFlags := 1, nameIndex := 5, descriptorIndex := 6, attributes := #[] }, { accessFlags := 260, nameIndex := 96, descriptorIndex := 97, attributes := #[] }] 33 0 #[] #[])
  fields := #[]
  methods := #[k0m0, k0m1]
  instanceTypes := #[]
  staticTypes := #[]
  resolved := Array.replicate 124 none
  statics := none }

def pool1 : Array CpInfo := pool [(2, .class_ 4), (1, u "java/lang/Object"), (0, u "<init>"), (0, u "()V"), (0, .integer 2147483647), (0, .methodref 9 10), (0, .class_ 11), (0, .nameAndType 12 13), (0, u "com/example/earnline/earnline/book/LedgerExportNamedPinLaw"), (0, u "cut"), (0, u "([CI)Ljava/lang/String;"), (0, .methodref 15 16), (0, .class_ 17), (0, .nameAndType 18 19), (0, u "com/example/earnline/earnline/book/LedgerExport"), (0, u "named"), (0, u "(Ljava/lang/String;)Lcom/example/earnline/earnline/book/LedgerExport;"), (0, .methodref 9 21), (0, .nameAndType 22 19), (0, u "expected"), (0, .string 24), (0, u "journal"), (0, .methodref 26 27), (0, .class_ 28), (0, .nameAndType 29 30), (0, u "java/lang/String"), (0, u "equals"), (0, u "(Ljava/lang/Object;)Z"), (0, .fieldref 15 32), (0, .nameAndType 33 34), (0, u "JOURNAL"), (0, u "Lcom/example/earnline/earnline/book/LedgerExport;"), (0, .string 36), (0, u "csv"), (0, .fieldref 15 38), (0, .nameAndType 39 34), (0, u "CSV"), (0, .methodref 26 41), (0, .nameAndType 5 42), (0, u "([C)V"), (2, u "law"), (0, u "(IIIIII)Z")] 5

def k1m0 : Method := { name := "<init>", desc := "()V", sig := { parameters := [], returnType := none }, accessFlags := 1, code := none }
def k1c1 : Code := { maxStack := 4, maxLocals := 12, code := code, exceptionTable := #[], attributes := #[] }
def k1m1 : Method := { name := "law", desc := "(IIIIII)Z", sig := { parameters := [.int, .int, .int, .int, .int, .int], returnType := some .boolean }, accessFlags := 9, code := some k1c1 }
def k1c2 : Code := { maxStack := 2, maxLocals := 1, code := method_3_code, exceptionTable := #[], attributes := #[] }
def k1m2 : Method := { name := "expected", desc := "(Ljava/lang/String;)Lcom/example/earnline/earnline/book/LedgerExport;", sig := { parameters := [(.object "java/lang/String")], returnType := some (.object "com/example/earnline/earnline/book/LedgerExport") }, accessFlags := 10, code := some k1c2 }
def k1c3 : Code := { maxStack := 7, maxLocals := 2, code := method_4_code, exceptionTable := #[], attributes := #[] }
def k1m3 : Method := { name := "cut", desc := "([CI)Ljava/lang/String;", sig := { parameters := [(.array .char), .int], returnType := some (.object "java/lang/String") }, accessFlags := 10, code := some k1c3 }
/-- com/example/earnline/earnline/book/LedgerExportNamedPinLaw -/
def k1 : Class := { plain "com/example/earnline/earnline/book/LedgerExportNamedPinLaw" (some 0) with
  accessFlags := 49
  interfaces := #[]
  cf := some (fileOf pool1 9 #[] #[{ accessFlags := 1, nameIndex := 5, descriptorIndex := 6, attributes := #[] }, { accessFlags := 9, nameIndex := 45, descriptorIndex := 46, attributes := #[] }, { accessFlags := 10, nameIndex := 22, descriptorIndex := 19, attributes := #[] }, { accessFlags := 10, nameIndex := 12, descriptorIndex := 13, attributes := #[] }] 49 2 #[] #[])
  fields := #[]
  methods := #[k1m0, k1m1, k1m2, k1m3]
  instanceTypes := #[]
  staticTypes := #[]
  resolved := Array.replicate 52 none
  statics := none }

def pool2 : Array CpInfo := pool [(1, .class_ 2), (0, u "java/io/Serializable"), (0, .class_ 4), (0, u "java/lang/Object")] 2

/-- java/io/Serializable -/
def k2 : Class := { plain "java/io/Serializable" (some 0) with
  accessFlags := 1537
  interfaces := #[]
  cf := some (fileOf pool2 1 #[] #[] 1537 3 #[] #[])
  fields := #[]
  methods := #[]
  instanceTypes := #[]
  staticTypes := #[]
  resolved := Array.replicate 7 none
  statics := none }

def pool3 : Array CpInfo := pool [(1, .class_ 2), (0, u "java/lang/Comparable"), (0, .class_ 4), (0, u "java/lang/Object")] 7

/-- java/lang/Comparable -/
def k3 : Class := { plain "java/lang/Comparable" (some 0) with
  accessFlags := 1537
  interfaces := #[]
  cf := some (fileOf pool3 1 #[] #[] 1537 3 #[] #[])
  fields := #[]
  methods := #[]
  instanceTypes := #[]
  staticTypes := #[]
  resolved := Array.replicate 12 none
  statics := none }

def pool4 : Array CpInfo := pool [(2, .class_ 4), (1, u "java/lang/CharSequence"), (42, .class_ 48), (0, u "java/lang/CharSequence$1CodePointIterator"), (10, .class_ 60), (0, u "java/lang/CharSequence$1CharIterator"), (5, .class_ 67), (0, u "java/lang/Object")] 63

/-- java/lang/CharSequence -/
def k4 : Class := { plain "java/lang/CharSequence" (some 0) with
  accessFlags := 1537
  interfaces := #[]
  cf := some (fileOf pool4 2 #[.nestMembers #[47, 59]] #[] 1537 66 #[] #[])
  fields := #[]
  methods := #[]
  instanceTypes := #[]
  staticTypes := #[]
  resolved := Array.replicate 131 none
  statics := none }

def pool5 : Array CpInfo := pool [(1, .class_ 2), (0, u "java/lang/constant/Constable"), (0, .class_ 4), (0, u "java/lang/Object")] 6

/-- java/lang/constant/Constable -/
def k5 : Class := { plain "java/lang/constant/Constable" (some 0) with
  accessFlags := 1537
  interfaces := #[]
  cf := some (fileOf pool5 1 #[] #[] 1537 3 #[] #[])
  fields := #[]
  methods := #[]
  instanceTypes := #[]
  staticTypes := #[]
  resolved := Array.replicate 11 none
  statics := none }

def pool6 : Array CpInfo := pool [(1, .class_ 2), (0, u "java/lang/constant/ConstantDesc"), (0, .class_ 4), (0, u "java/lang/Object")] 32

/-- java/lang/constant/ConstantDesc -/
def k6 : Class := { plain "java/lang/constant/ConstantDesc" (some 0) with
  accessFlags := 1537
  interfaces := #[]
  cf := some (fileOf pool6 1 #[] #[] 1537 3 #[] #[])
  fields := #[]
  methods := #[]
  instanceTypes := #[]
  staticTypes := #[]
  resolved := Array.replicate 37 none
  statics := none }

def pool7 : Array CpInfo := pool [(1, .methodref 2 3), (0, .class_ 4), (0, .nameAndType 5 6), (0, u "java/lang/Object"), (0, u "<init>"), (0, u "()V"), (0, .string 8), (0, u ""), (0, .fieldref 10 11), (0, .class_ 12), (0, .nameAndType 13 14), (0, u "java/lang/String"), (0, u "value"), (0, u "[B"), (0, .fieldref 10 16), (0, .nameAndType 17 18), (0, u "coder"), (0, u "B"), (2, u "hash"), (0, u "I"), (2, u "hashIsZero"), (0, u "Z"), (0, .methodref 10 28), (0, .nameAndType 5 29), (0, u "([CIILjava/lang/Void;)V"), (8, .fieldref 10 39), (0, .nameAndType 40 26), (0, u "COMPACT_STRINGS"), (1, .class_ 44), (1, u "java/lang/StringUTF16"), (0, u "compress"), (1, .methodref 42 48), (0, .nameAndType 49 50), (0, u "coderFromArrayLen"), (0, u "([BI)B"), (56, .class_ 109), (1, u "java/lang/StringLatin1"), (67, .methodref 42 178), (0, .nameAndType 45 179), (0, u "([CII)[B"), (361, .methodref 107 542), (0, .nameAndType 543 544), (0, u "equals"), (0, u "([B[B)Z"), (28, u "(Ljava/lang/Object;)Z"), (1, .class_ 576), (0, u "java/lang/CharSequence"), (22, u "CASE_INSENSITIVE_ORDER"), (0, u "Ljava/util/Comparator;"), (409, u "([C)V"), (90, u "serialPersistentFields"), (0, u "[Ljava/io/ObjectStreamField;"), (0, .class_ 1104), (0, u "java/lang/String$CaseInsensitiveComparator"), (1, .class_ 1107), (0, u "java/io/Serializable"), (0, .class_ 1109), (0, u "java/lang/Comparable"), (0, .class_ 1111), (0, u "java/lang/constant/Constable"), (0, .class_ 1113), (0, u "java/lang/constant/ConstantDesc"), (2, u "serialVersionUID"), (0, u "J"), (3, u "REPL"), (0, u "C"), (2, u "LATIN1"), (1, u "UTF16")] 323

def k7m0 : Method := { name := "<init>", desc := "()V", sig := { parameters := [], returnType := none }, accessFlags := 1, code := none }
def k7c1 : Code := { maxStack := 5, maxLocals := 2, code := jdk_42_method_3_code, exceptionTable := #[], attributes := #[] }
def k7m1 : Method := { name := "<init>", desc := "([C)V", sig := { parameters := [(.array .char)], returnType := none }, accessFlags := 1, code := some k7c1 }
def k7c2 : Code := { maxStack := 2, maxLocals := 3, code := jdk_42_method_66_code, exceptionTable := #[], attributes := #[] }
def k7m2 : Method := { name := "equals", desc := "(Ljava/lang/Object;)Z", sig := { parameters := [(.object "java/lang/Object")], returnType := some .boolean }, accessFlags := 1, code := some k7c2 }
def k7c3 : Code := { maxStack := 4, maxLocals := 6, code := jdk_42_method_149_code, exceptionTable := #[], attributes := #[] }
def k7m3 : Method := { name := "<init>", desc := "([CIILjava/lang/Void;)V", sig := { parameters := [(.array .char), .int, .int, (.object "java/lang/Void")], returnType := none }, accessFlags := 2, code := some k7c3 }
/-- java/lang/String -/
def k7 : Class := { plain "java/lang/String" (some 0) with
  accessFlags := 49
  interfaces := #[2, 3, 4, 5, 6]
  cf := some (fileOf pool7 10 #[.nestMembers #[1103]] #[{ accessFlags := 1, nameIndex := 5, descriptorIndex := 6, attributes := #[] }, { accessFlags := 1, nameIndex := 5, descriptorIndex := 1010, attributes := #[] }, { accessFlags := 1, nameIndex := 543, descriptorIndex := 573, attributes := #[] }, { accessFlags := 2, nameIndex := 5, descriptorIndex := 29, attributes := #[] }] 49 2 #[1106, 1108, 575, 1110, 1112] #[{ accessFlags := 18, nameIndex := 13, descriptorIndex := 14, attributes := #[] }, { accessFlags := 18, nameIndex := 17, descriptorIndex := 18, attributes := #[] }, { accessFlags := 2, nameIndex := 21, descriptorIndex := 22, attributes := #[] }, { accessFlags := 2, nameIndex := 25, descriptorIndex := 26, attributes := #[] }, { accessFlags := 26, nameIndex := 1116, descriptorIndex := 1117, attributes := #[] }, { accessFlags := 24, nameIndex := 40, descriptorIndex := 26, attributes := #[] }, { accessFlags := 26, nameIndex := 1101, descriptorIndex := 1102, attributes := #[] }, { accessFlags := 26, nameIndex := 1121, descriptorIndex := 1122, attributes := #[] }, { accessFlags := 25, nameIndex := 599, descriptorIndex := 600, attributes := #[] }, { accessFlags := 24, nameIndex := 1125, descriptorIndex := 18, attributes := #[] }, { accessFlags := 24, nameIndex := 1127, descriptorIndex := 18, attributes := #[] }])
  fields := #[{ name := "value", type := (.array .byte), accessFlags := 18, slot := 0, constantValue := 0 }, { name := "coder", type := .byte, accessFlags := 18, slot := 1, constantValue := 0 }, { name := "hash", type := .int, accessFlags := 2, slot := 2, constantValue := 0 }, { name := "hashIsZero", type := .boolean, accessFlags := 2, slot := 3, constantValue := 0 }, { name := "serialVersionUID", type := .long, accessFlags := 26, slot := 0, constantValue := 0 }, { name := "COMPACT_STRINGS", type := .boolean, accessFlags := 24, slot := 1, constantValue := 0 }, { name := "serialPersistentFields", type := (.array (.object "java/io/ObjectStreamField")), accessFlags := 26, slot := 2, constantValue := 0 }, { name := "REPL", type := .char, accessFlags := 26, slot := 3, constantValue := 0 }, { name := "CASE_INSENSITIVE_ORDER", type := (.object "java/util/Comparator"), accessFlags := 25, slot := 4, constantValue := 0 }, { name := "LATIN1", type := .byte, accessFlags := 24, slot := 5, constantValue := 0 }, { name := "UTF16", type := .byte, accessFlags := 24, slot := 6, constantValue := 0 }]
  methods := #[k7m0, k7m1, k7m2, k7m3]
  instanceTypes := #[(.array .byte), .byte, .int, .boolean]
  staticTypes := #[.long, .boolean, (.array (.object "java/io/ObjectStreamField")), .char, (.object "java/util/Comparator"), .byte, .byte]
  resolved := Array.replicate 1451 none
  statics := some 0 }

def pool8 : Array CpInfo := pool [(6, .class_ 8), (1, u "java/lang/Object"), (0, u "<init>"), (0, u "()V"), (1, .class_ 14), (1, u "java/lang/StringUTF16"), (31, u "$assertionsDisabled"), (0, u "Z"), (13, u "HI_BYTE_SHIFT"), (0, u "I"), (2, u "LO_BYTE_SHIFT"), (49, .methodref 12 116), (0, .nameAndType 117 118), (0, u "compress"), (0, u "([CI[BII)I"), (3, u "([CII)[B"), (138, u "coderFromArrayLen"), (0, u "([BI)B"), (106, .class_ 371), (1, u "java/lang/StringUTF16$LinesSpliterator"), (58, u "MAX_LENGTH"), (196, .class_ 628), (0, u "java/lang/StringUTF16$CodePointsSpliterator"), (0, .class_ 630), (0, u "java/lang/StringUTF16$CharsSpliterator")] 4

def k8m0 : Method := { name := "<init>", desc := "()V", sig := { parameters := [], returnType := none }, accessFlags := 0, code := none }
def k8c1 : Code := { maxStack := 2, maxLocals := 2, code := jdk_52_method_15_code, exceptionTable := #[], attributes := #[] }
def k8m1 : Method := { name := "coderFromArrayLen", desc := "([BI)B", sig := { parameters := [(.array .byte), .int], returnType := some .byte }, accessFlags := 8, code := some k8c1 }
def k8c2 : Code := { maxStack := 5, maxLocals := 6, code := jdk_52_method_16_code, exceptionTable := #[], attributes := #[] }
def k8m2 : Method := { name := "compress", desc := "([CII)[B", sig := { parameters := [(.array .char), .int, .int], returnType := some (.array .byte) }, accessFlags := 9, code := some k8c2 }
def k8c3 : Code := { maxStack := 3, maxLocals := 7, code := jdk_52_method_21_code, exceptionTable := #[], attributes := #[] }
def k8m3 : Method := { name := "compress", desc := "([CI[BII)I", sig := { parameters := [(.array .char), .int, (.array .byte), .int, .int], returnType := some .int }, accessFlags := 9, code := some k8c3 }
/-- java/lang/StringUTF16 -/
def k8 : Class := { plain "java/lang/StringUTF16" (some 0) with
  accessFlags := 48
  interfaces := #[]
  cf := some (fileOf pool8 12 #[.nestMembers #[627, 629, 369]] #[{ accessFlags := 0, nameIndex := 9, descriptorIndex := 10, attributes := #[] }, { accessFlags := 8, nameIndex := 261, descriptorIndex := 262, attributes := #[] }, { accessFlags := 9, nameIndex := 117, descriptorIndex := 122, attributes := #[] }, { accessFlags := 9, nameIndex := 117, descriptorIndex := 118, attributes := #[] }] 48 6 #[] #[{ accessFlags := 26, nameIndex := 61, descriptorIndex := 62, attributes := #[] }, { accessFlags := 26, nameIndex := 65, descriptorIndex := 62, attributes := #[] }, { accessFlags := 24, nameIndex := 430, descriptorIndex := 62, attributes := #[] }, { accessFlags := 4120, nameIndex := 46, descriptorIndex := 47, attributes := #[] }])
  fields := #[{ name := "HI_BYTE_SHIFT", type := .int, accessFlags := 26, slot := 0, constantValue := 0 }, { name := "LO_BYTE_SHIFT", type := .int, accessFlags := 26, slot := 1, constantValue := 0 }, { name := "MAX_LENGTH", type := .int, accessFlags := 24, slot := 2, constantValue := 0 }, { name := "$assertionsDisabled", type := .boolean, accessFlags := 4120, slot := 3, constantValue := 0 }]
  methods := #[k8m0, k8m1, k8m2, k8m3]
  instanceTypes := #[]
  staticTypes := #[.int, .int, .int, .boolean]
  resolved := Array.replicate 635 none
  statics := none }

def pool9 : Array CpInfo := pool [(2, .class_ 4), (1, u "java/lang/Enum"), (0, u "name"), (0, u "Ljava/lang/String;"), (2, u "ordinal"), (0, u "I"), (1, .class_ 14), (1, u "java/lang/Object"), (4, u "hash"), (86, .class_ 108), (1, u "java/lang/Enum$EnumDesc"), (2, .class_ 112), (0, u "java/lang/constant/Constable"), (0, .class_ 114), (0, u "java/lang/Comparable"), (0, .class_ 116), (0, u "java/io/Serializable")] 87

/-- java/lang/Enum -/
def k9 : Class := { plain "java/lang/Enum" (some 0) with
  accessFlags := 1057
  interfaces := #[5, 3, 2]
  cf := some (fileOf pool9 2 #[.nestMembers #[106]] #[] 1057 12 #[111, 113, 115] #[{ accessFlags := 18, nameIndex := 5, descriptorIndex := 6, attributes := #[] }, { accessFlags := 18, nameIndex := 9, descriptorIndex := 10, attributes := #[] }, { accessFlags := 2, nameIndex := 19, descriptorIndex := 10, attributes := #[] }])
  fields := #[{ name := "name", type := (.object "java/lang/String"), accessFlags := 18, slot := 0, constantValue := 0 }, { name := "ordinal", type := .int, accessFlags := 18, slot := 1, constantValue := 0 }, { name := "hash", type := .int, accessFlags := 2, slot := 2, constantValue := 0 }]
  methods := #[]
  instanceTypes := #[(.object "java/lang/String"), .int, .int]
  staticTypes := #[]
  resolved := Array.replicate 204 none
  statics := none }

def pool10 : Array CpInfo := pool [(1, .class_ 2), (0, u "com/example/earnline/earnline/book/LedgerExport"), (2, u "JOURNAL"), (0, u "Lcom/example/earnline/earnline/book/LedgerExport;"), (2, u "CSV"), (0, .fieldref 1 11), (0, .nameAndType 12 13), (0, u "$VALUES"), (0, u "[Lcom/example/earnline/earnline/book/LedgerExport;"), (0, .methodref 15 16), (0, .class_ 13), (0, .nameAndType 17 18), (0, u "clone"), (0, u "()Ljava/lang/Object;"), (1, .class_ 22), (1, u "java/lang/Enum"), (6, .fieldref 1 30), (0, .nameAndType 31 32), (0, u "format"), (0, u "Ljava/lang/String;"), (0, .methodref 1 34), (0, .nameAndType 35 36), (0, u "values"), (0, u "()[Lcom/example/earnline/earnline/book/LedgerExport;"), (0, .methodref 38 39), (0, .class_ 40), (0, .nameAndType 41 42), (0, u "java/lang/String"), (0, u "equals"), (0, u "(Ljava/lang/Object;)Z"), (120, u "THOUSAND"), (0, u "Ljava/math/BigDecimal;"), (55, .class_ 221), (0, u "com/example/earnline/earnline/book/LedgerExport$1"), (6, .class_ 229), (0, u "com/example/earnline/earnline/book/LedgerExport$2"), (30, u "CSV_COLUMNS"), (0, u "Ljava/util/List;"), (0, u "INDENT"), (3, u "AFTER_ACCOUNT"), (2, u "ASSET"), (0, u "REVENUE"), (4, u "(Ljava/lang/String;)Lcom/example/earnline/earnline/book/LedgerExport;"), (1, u "named")] 56

def k10c0 : Code := { maxStack := 1, maxLocals := 0, code := prog_38_method_1_code, exceptionTable := #[], attributes := #[] }
def k10m0 : Method := { name := "values", desc := "()[Lcom/example/earnline/earnline/book/LedgerExport;", sig := { parameters := [], returnType := some (.array (.object "com/example/earnline/earnline/book/LedgerExport")) }, accessFlags := 9, code := some k10c0 }
def k10c1 : Code := { maxStack := 2, maxLocals := 5, code := prog_38_method_4_code, exceptionTable := #[], attributes := #[] }
def k10m1 : Method := { name := "named", desc := "(Ljava/lang/String;)Lcom/example/earnline/earnline/book/LedgerExport;", sig := { parameters := [(.object "java/lang/String")], returnType := some (.object "com/example/earnline/earnline/book/LedgerExport") }, accessFlags := 9, code := some k10c1 }
/-- com/example/earnline/earnline/book/LedgerExport -/
def k10 : Class := { plain "com/example/earnline/earnline/book/LedgerExport" (some 9) with
  accessFlags := 17441
  interfaces := #[]
  cf := some (fileOf pool10 1 #[.nestMembers #[228, 220]] #[{ accessFlags := 9, nameIndex := 35, descriptorIndex := 36, attributes := #[] }, { accessFlags := 9, nameIndex := 277, descriptorIndex := 275, attributes := #[] }] 17441 20 #[] #[{ accessFlags := 16409, nameIndex := 5, descriptorIndex := 6, attributes := #[] }, { accessFlags := 16409, nameIndex := 9, descriptorIndex := 6, attributes := #[] }, { accessFlags := 26, nameIndex := 262, descriptorIndex := 32, attributes := #[] }, { accessFlags := 26, nameIndex := 266, descriptorIndex := 32, attributes := #[] }, { accessFlags := 26, nameIndex := 269, descriptorIndex := 32, attributes := #[] }, { accessFlags := 26, nameIndex := 270, descriptorIndex := 32, attributes := #[] }, { accessFlags := 26, nameIndex := 163, descriptorIndex := 164, attributes := #[] }, { accessFlags := 26, nameIndex := 260, descriptorIndex := 261, attributes := #[] }, { accessFlags := 18, nameIndex := 31, descriptorIndex := 32, attributes := #[] }, { accessFlags := 4122, nameIndex := 12, descriptorIndex := 13, attributes := #[] }])
  fields := #[{ name := "JOURNAL", type := (.object "com/example/earnline/earnline/book/LedgerExport"), accessFlags := 16409, slot := 0, constantValue := 0 }, { name := "CSV", type := (.object "com/example/earnline/earnline/book/LedgerExport"), accessFlags := 16409, slot := 1, constantValue := 0 }, { name := "INDENT", type := (.object "java/lang/String"), accessFlags := 26, slot := 2, constantValue := 0 }, { name := "AFTER_ACCOUNT", type := (.object "java/lang/String"), accessFlags := 26, slot := 3, constantValue := 0 }, { name := "ASSET", type := (.object "java/lang/String"), accessFlags := 26, slot := 4, constantValue := 0 }, { name := "REVENUE", type := (.object "java/lang/String"), accessFlags := 26, slot := 5, constantValue := 0 }, { name := "THOUSAND", type := (.object "java/math/BigDecimal"), accessFlags := 26, slot := 6, constantValue := 0 }, { name := "CSV_COLUMNS", type := (.object "java/util/List"), accessFlags := 26, slot := 7, constantValue := 0 }, { name := "format", type := (.object "java/lang/String"), accessFlags := 18, slot := 3, constantValue := 0 }, { name := "$VALUES", type := (.array (.object "com/example/earnline/earnline/book/LedgerExport")), accessFlags := 4122, slot := 8, constantValue := 0 }]
  methods := #[k10m0, k10m1]
  instanceTypes := #[(.object "java/lang/String"), .int, .int, (.object "java/lang/String")]
  staticTypes := #[(.object "com/example/earnline/earnline/book/LedgerExport"), (.object "com/example/earnline/earnline/book/LedgerExport"), (.object "java/lang/String"), (.object "java/lang/String"), (.object "java/lang/String"), (.object "java/lang/String"), (.object "java/math/BigDecimal"), (.object "java/util/List"), (.array (.object "com/example/earnline/earnline/book/LedgerExport"))]
  resolved := Array.replicate 334 none
  statics := some 1 }

def pool11 : Array CpInfo := pool [(1, .class_ 2), (0, u "java/lang/Cloneable"), (0, .class_ 4), (0, u "java/lang/Object")] 2

/-- java/lang/Cloneable -/
def k11 : Class := { plain "java/lang/Cloneable" (some 0) with
  accessFlags := 1537
  interfaces := #[]
  cf := some (fileOf pool11 1 #[] #[] 1537 3 #[] #[])
  fields := #[]
  methods := #[]
  instanceTypes := #[]
  staticTypes := #[]
  resolved := Array.replicate 7 none
  statics := none }

def pool12 : Array CpInfo := pool [(2, .class_ 4), (1, u "com/example/earnline/earnline/book/LedgerExport"), (118, .class_ 124), (0, u "com/example/earnline/earnline/book/LedgerExport$1")] 29

/-- com/example/earnline/earnline/book/LedgerExport$1 -/
def k12 : Class := { plain "com/example/earnline/earnline/book/LedgerExport$1" (some 10) with
  accessFlags := 16432
  interfaces := #[]
  cf := some (fileOf pool12 123 #[.nestHost 2] #[] 16432 2 #[] #[])
  fields := #[]
  methods := #[]
  instanceTypes := #[(.object "java/lang/String"), .int, .int, (.object "java/lang/String")]
  staticTypes := #[]
  resolved := Array.replicate 154 none
  statics := none }

def pool13 : Array CpInfo := pool [(4, .class_ 6), (1, u "java/lang/Object"), (0, u "<init>"), (0, u "()V"), (5, .class_ 16), (1, u "java/lang/StringLatin1"), (104, u "$assertionsDisabled"), (0, u "Z"), (98, .class_ 223), (1, u "java/lang/StringLatin1$LinesSpliterator"), (57, u "equals"), (0, u "([B[B)Z"), (107, .class_ 391), (0, u "java/lang/StringLatin1$CharsSpliterator")] 3

def k13m0 : Method := { name := "<init>", desc := "()V", sig := { parameters := [], returnType := none }, accessFlags := 0, code := none }
def k13c1 : Code := { maxStack := 3, maxLocals := 3, code := jdk_43_method_13_code, exceptionTable := #[], attributes := #[] }
def k13m1 : Method := { name := "equals", desc := "([B[B)Z", sig := { parameters := [(.array .byte), (.array .byte)], returnType := some .boolean }, accessFlags := 9, code := some k13c1 }
/-- java/lang/StringLatin1 -/
def k13 : Class := { plain "java/lang/StringLatin1" (some 0) with
  accessFlags := 48
  interfaces := #[]
  cf := some (fileOf pool13 14 #[.nestMembers #[390, 221]] #[{ accessFlags := 0, nameIndex := 7, descriptorIndex := 8, attributes := #[] }, { accessFlags := 9, nameIndex := 281, descriptorIndex := 282, attributes := #[] }] 48 4 #[] #[{ accessFlags := 4120, nameIndex := 121, descriptorIndex := 122, attributes := #[] }])
  fields := #[{ name := "$assertionsDisabled", type := .boolean, accessFlags := 4120, slot := 0, constantValue := 0 }]
  methods := #[k13m0, k13m1]
  instanceTypes := #[]
  staticTypes := #[.boolean]
  resolved := Array.replicate 395 none
  statics := none }

def pool14 : Array CpInfo := pool [(2, .class_ 4), (1, u "com/example/earnline/earnline/book/LedgerExport"), (61, .class_ 67), (0, u "com/example/earnline/earnline/book/LedgerExport$2")] 14

/-- com/example/earnline/earnline/book/LedgerExport$2 -/
def k14 : Class := { plain "com/example/earnline/earnline/book/LedgerExport$2" (some 10) with
  accessFlags := 16432
  interfaces := #[]
  cf := some (fileOf pool14 66 #[.nestHost 2] #[] 16432 2 #[] #[])
  fields := #[]
  methods := #[]
  instanceTypes := #[(.object "java/lang/String"), .int, .int, (.object "java/lang/String")]
  staticTypes := #[]
  resolved := Array.replicate 82 none
  statics := none }

def pool15 : Array CpInfo := pool [(2, .class_ 4), (1, u "java/lang/Object"), (0, u "<init>"), (0, u "()V"), (17, .class_ 26), (1, u "jdk/internal/util/Preconditions"), (28, .class_ 56), (0, u "jdk/internal/util/Preconditions$4"), (57, .class_ 115), (0, u "jdk/internal/util/Preconditions$1"), (7, u "SIOOBE_FORMATTER"), (0, u "Ljava/util/function/BiFunction;"), (0, .class_ 126), (0, u "jdk/internal/util/Preconditions$2"), (3, u "AIOOBE_FORMATTER"), (0, .class_ 132), (0, u "jdk/internal/util/Preconditions$3"), (3, u "IOOBE_FORMATTER")] 57

def k15m0 : Method := { name := "<init>", desc := "()V", sig := { parameters := [], returnType := none }, accessFlags := 1, code := none }
/-- jdk/internal/util/Preconditions -/
def k15 : Class := { plain "jdk/internal/util/Preconditions" (some 0) with
  accessFlags := 33
  interfaces := #[]
  cf := some (fileOf pool15 24 #[.nestMembers #[55, 131, 125, 114]] #[{ accessFlags := 1, nameIndex := 5, descriptorIndex := 6, attributes := #[] }] 33 2 #[] #[{ accessFlags := 25, nameIndex := 123, descriptorIndex := 124, attributes := #[] }, { accessFlags := 25, nameIndex := 130, descriptorIndex := 124, attributes := #[] }, { accessFlags := 25, nameIndex := 136, descriptorIndex := 124, attributes := #[] }])
  fields := #[{ name := "SIOOBE_FORMATTER", type := (.object "java/util/function/BiFunction"), accessFlags := 25, slot := 0, constantValue := 0 }, { name := "AIOOBE_FORMATTER", type := (.object "java/util/function/BiFunction"), accessFlags := 25, slot := 1, constantValue := 0 }, { name := "IOOBE_FORMATTER", type := (.object "java/util/function/BiFunction"), accessFlags := 25, slot := 2, constantValue := 0 }]
  methods := #[k15m0]
  instanceTypes := #[]
  staticTypes := #[(.object "java/util/function/BiFunction"), (.object "java/util/function/BiFunction"), (.object "java/util/function/BiFunction")]
  resolved := Array.replicate 194 none
  statics := some 2 }

def pool16 : Array CpInfo := pool [(9, u "<init>"), (6, .class_ 18), (1, u "java/lang/Object"), (0, u "()V"), (1, .class_ 23), (1, u "jdk/internal/util/ArraysSupport"), (0, u "LOG2_ARRAY_LONG_INDEX_SCALE"), (0, u "I"), (2, u "U"), (0, u "Ljdk/internal/misc/Unsafe;"), (8, u "BIG_ENDIAN"), (0, u "Z"), (8, u "LOG2_BYTE_BIT_SIZE"), (4, u "LOG2_ARRAY_INT_INDEX_SCALE"), (54, u "JLA"), (0, u "Ljdk/internal/access/JavaLangAccess;"), (11, u "LOG2_ARRAY_BOOLEAN_INDEX_SCALE"), (9, u "LOG2_ARRAY_BYTE_INDEX_SCALE"), (5, u "LOG2_ARRAY_CHAR_INDEX_SCALE"), (5, u "LOG2_ARRAY_SHORT_INDEX_SCALE"), (18, u "LOG2_ARRAY_FLOAT_INDEX_SCALE"), (24, u "LOG2_ARRAY_DOUBLE_INDEX_SCALE"), (89, u "T_BOOLEAN"), (2, u "T_CHAR"), (1, u "T_FLOAT"), (1, u "T_DOUBLE"), (1, u "T_BYTE"), (1, u "T_SHORT"), (1, u "T_INT"), (1, u "T_LONG"), (1, u "SOFT_MAX_ARRAY_LENGTH")] 83

def k16m0 : Method := { name := "<init>", desc := "()V", sig := { parameters := [], returnType := none }, accessFlags := 2, code := none }
/-- jdk/internal/util/ArraysSupport -/
def k16 : Class := { plain "jdk/internal/util/ArraysSupport" (some 0) with
  accessFlags := 33
  interfaces := #[]
  cf := some (fileOf pool16 21 #[] #[{ accessFlags := 2, nameIndex := 9, descriptorIndex := 19, attributes := #[] }] 33 16 #[] #[{ accessFlags := 24, nameIndex := 28, descriptorIndex := 29, attributes := #[] }, { accessFlags := 26, nameIndex := 38, descriptorIndex := 39, attributes := #[] }, { accessFlags := 25, nameIndex := 121, descriptorIndex := 25, attributes := #[] }, { accessFlags := 25, nameIndex := 131, descriptorIndex := 25, attributes := #[] }, { accessFlags := 25, nameIndex := 137, descriptorIndex := 25, attributes := #[] }, { accessFlags := 25, nameIndex := 143, descriptorIndex := 25, attributes := #[] }, { accessFlags := 25, nameIndex := 53, descriptorIndex := 25, attributes := #[] }, { accessFlags := 25, nameIndex := 24, descriptorIndex := 25, attributes := #[] }, { accessFlags := 25, nameIndex := 162, descriptorIndex := 25, attributes := #[] }, { accessFlags := 25, nameIndex := 187, descriptorIndex := 25, attributes := #[] }, { accessFlags := 26, nameIndex := 48, descriptorIndex := 25, attributes := #[] }, { accessFlags := 25, nameIndex := 277, descriptorIndex := 25, attributes := #[] }, { accessFlags := 25, nameIndex := 280, descriptorIndex := 25, attributes := #[] }, { accessFlags := 25, nameIndex := 282, descriptorIndex := 25, attributes := #[] }, { accessFlags := 25, nameIndex := 284, descriptorIndex := 25, attributes := #[] }, { accessFlags := 25, nameIndex := 286, descriptorIndex := 25, attributes := #[] }, { accessFlags := 25, nameIndex := 288, descriptorIndex := 25, attributes := #[] }, { accessFlags := 25, nameIndex := 290, descriptorIndex := 25, attributes := #[] }, { accessFlags := 25, nameIndex := 292, descriptorIndex := 25, attributes := #[] }, { accessFlags := 26, nameIndex := 108, descriptorIndex := 109, attributes := #[] }, { accessFlags := 25, nameIndex := 294, descriptorIndex := 25, attributes := #[] }])
  fields := #[{ name := "U", type := (.object "jdk/internal/misc/Unsafe"), accessFlags := 24, slot := 0, constantValue := 0 }, { name := "BIG_ENDIAN", type := .boolean, accessFlags := 26, slot := 1, constantValue := 0 }, { name := "LOG2_ARRAY_BOOLEAN_INDEX_SCALE", type := .int, accessFlags := 25, slot := 2, constantValue := 0 }, { name := "LOG2_ARRAY_BYTE_INDEX_SCALE", type := .int, accessFlags := 25, slot := 3, constantValue := 0 }, { name := "LOG2_ARRAY_CHAR_INDEX_SCALE", type := .int, accessFlags := 25, slot := 4, constantValue := 0 }, { name := "LOG2_ARRAY_SHORT_INDEX_SCALE", type := .int, accessFlags := 25, slot := 5, constantValue := 0 }, { name := "LOG2_ARRAY_INT_INDEX_SCALE", type := .int, accessFlags := 25, slot := 6, constantValue := 0 }, { name := "LOG2_ARRAY_LONG_INDEX_SCALE", type := .int, accessFlags := 25, slot := 7, constantValue := 0 }, { name := "LOG2_ARRAY_FLOAT_INDEX_SCALE", type := .int, accessFlags := 25, slot := 8, constantValue := 0 }, { name := "LOG2_ARRAY_DOUBLE_INDEX_SCALE", type := .int, accessFlags := 25, slot := 9, constantValue := 0 }, { name := "LOG2_BYTE_BIT_SIZE", type := .int, accessFlags := 26, slot := 10, constantValue := 0 }, { name := "T_BOOLEAN", type := .int, accessFlags := 25, slot := 11, constantValue := 0 }, { name := "T_CHAR", type := .int, accessFlags := 25, slot := 12, constantValue := 0 }, { name := "T_FLOAT", type := .int, accessFlags := 25, slot := 13, constantValue := 0 }, { name := "T_DOUBLE", type := .int, accessFlags := 25, slot := 14, constantValue := 0 }, { name := "T_BYTE", type := .int, accessFlags := 25, slot := 15, constantValue := 0 }, { name := "T_SHORT", type := .int, accessFlags := 25, slot := 16, constantValue := 0 }, { name := "T_INT", type := .int, accessFlags := 25, slot := 17, constantValue := 0 }, { name := "T_LONG", type := .int, accessFlags := 25, slot := 18, constantValue := 0 }, { name := "JLA", type := (.object "jdk/internal/access/JavaLangAccess"), accessFlags := 26, slot := 19, constantValue := 0 }, { name := "SOFT_MAX_ARRAY_LENGTH", type := .int, accessFlags := 25, slot := 20, constantValue := 0 }]
  methods := #[k16m0]
  instanceTypes := #[]
  staticTypes := #[(.object "jdk/internal/misc/Unsafe"), .boolean, .int, .int, .int, .int, .int, .int, .int, .int, .int, .int, .int, .int, .int, .int, .int, .int, .int, (.object "jdk/internal/access/JavaLangAccess"), .int]
  resolved := Array.replicate 378 none
  statics := none }

/-- the primitive byte -/
def k17 : Class := { plain "byte" none with kind := .primitive 'B', accessFlags := 0x411 }
/-- [B -/
def k18 : Class := { plain "[B" (some 0) with kind := .array 17 .byte, interfaces := #[11, 2], accessFlags := 1041 }

/-- the primitive char -/
def k19 : Class := { plain "char" none with kind := .primitive 'C', accessFlags := 0x411 }
/-- [C -/
def k20 : Class := { plain "[C" (some 0) with kind := .array 19 .char, interfaces := #[11, 2], accessFlags := 1041 }

/-- the primitive int -/
def k21 : Class := { plain "int" none with kind := .primitive 'I', accessFlags := 0x411 }
/-- [I -/
def k22 : Class := { plain "[I" (some 0) with kind := .array 21 .int, interfaces := #[11, 2], accessFlags := 1041 }

/-- [Lcom/example/earnline/earnline/book/LedgerExport; -/
def k23 : Class := { plain "[Lcom/example/earnline/earnline/book/LedgerExport;" (some 0) with kind := .array 10 (.object "com/example/earnline/earnline/book/LedgerExport"), interfaces := #[11, 2], accessFlags := 1041 }

def heap : Heap := #[{ cls := 7, slots := #[.long 0, .int 1, .null, .int 0, .null, .int 0, .int 0], vm := .statics 7 },
  { cls := 10, slots := #[.ref 4, .ref 5, .null, .null, .null, .null, .null, .null, .ref 3], vm := .statics 10 },
  { cls := 15, slots := #[.null, .null, .null], vm := .statics 15 },
  { cls := 23, slots := #[.ref 4, .ref 5], vm := .none },
  { cls := 12, slots := #[.null, .int 0, .int 0, .ref 6], vm := .none },
  { cls := 14, slots := #[.null, .int 1, .int 0, .ref 8], vm := .none },
  { cls := 7, slots := #[.ref 7, .int 0, .int 0, .int 0], vm := .none },
  { cls := 18, slots := #[.int 106, .int 111, .int 117, .int 114, .int 110, .int 97, .int 108], vm := .none },
  { cls := 7, slots := #[.ref 9, .int 0, .int 0, .int 0], vm := .none },
  { cls := 18, slots := #[.int 99, .int 115, .int 118], vm := .none }]
def classes : Array Class := #[k0, k1, k2, k3, k4, k5, k6, k7, k8, k9, k10, k11, k12, k13, k14, k15, k16, k17, k18, k19, k20, k21, k22, k23]
def interned : List (Array UInt16 × Addr) := []
def slotsUsed : Nat := 47
def theMethod : MethodId := ⟨1, 1⟩
def args0 : Array Value := #[.int 5, .int 1, .int 3, .int 4, .int 4, .int 4]
def aboutOver (below : List Frame) : State where
  vm := { classes := classes, interned := interned.toArray }
  heap := heap
  slotsUsed := slotsUsed
  threads := #[{ frames := .invoking theMethod args0 :: below }]
def below0 : List Frame := [.native { method := ⟨0, 0⟩, args := #[] }]
def about1 : State := aboutOver below0
def p0 : Program := .bare "" "" ""
def e0 : Env := launch0.env 0 0 0
theorem w_frames : about1.frames = Frame.invoking theMethod args0 :: below0 := rfl
set_option maxRecDepth 65536 in
theorem w_args : argsFit about1.vm theMethod args0 = true := by decide +kernel
set_option maxRecDepth 65536 in
theorem w_heap : heapFits about1 = true := by decide +kernel
set_option maxRecDepth 65536 in
theorem w_runnable : about1.curStatus? = some .runnable := by decide +kernel
set_option maxRecDepth 65536 in
theorem w_alone : about1.alone = true := by decide +kernel
set_option maxRecDepth 65536 in
theorem w_named : about1.methodNamed? x = some theMethod := by decide +kernel
set_option maxRecDepth 65536 in
theorem w_hears : about1.hears theMethod below0 = true := by decide +kernel
set_option maxRecDepth 65536 in
theorem w_ripe : about1.ripe theMethod args0 below0 = true := by decide +kernel
theorem w_running : about1.status = .running := rfl
set_option maxRecDepth 65536 in
theorem w_room : about1.hasRoom e0.platform room_1 = true :=
  launch0.hasRoom_least _ room_1 (by decide +kernel) (by decide +kernel) (by decide +kernel) (by decide +kernel) (by decide +kernel) (by decide +kernel)
theorem allAtoms_all (ts : List Jvm.Cond) (a : Array Jvm.Value) (st : Jvm.State) : (allAtoms ts).before a st = ts.all (fun c => c.before a st) := by
  induction ts with
  | nil => rfl
  | cons c t ih =>
    show (Jvm.Cond.and c (allAtoms t)).before a st = _
    rw [Jvm.Cond.before_and, ih, List.all_cons]
def words1 : List Jvm.Cond := Jvm.Cond.code x code maxLocals ret :: tables_1
/-- a 'code' word, met by the world's own term for the bytes: nothing is compared byte by byte -/
theorem code_word {y : MethodName} {bytes : ByteArray} {mx : Nat} {rt : Option FieldType} {a : Array Value} {s : State} {m : MethodId} {meth : Method} {c : Code} (h1 : s.methodNamed? y = some m) (h2 : s.vm.method? m = some meth) (h3 : meth.code = some c) (h4 : c.code = bytes)
    (h5 : (c.maxLocals == mx && c.exceptionTable.isEmpty && decide (c.maxStack ≤ mostOperands) && decide (meth.sig.returnType = rt) && !meth.locks && decide (parseMethodDescriptor y.desc = some meth.sig)) = true) : (Jvm.Cond.code y bytes mx rt).before a s = true := by
  simp only [Bool.and_eq_true, beq_iff_eq, Bool.not_eq_true', decide_eq_true_eq] at h5
  obtain ⟨⟨⟨⟨⟨g1, g2⟩, g3⟩, g4⟩, g5⟩, g6⟩ := h5
  simp [Cond.before, Cond.holds, Cond.value, h1, h2, h3, h4, g1, g2, g3, g4, g5, g6]
def isCode : Jvm.Cond → Bool
  | .code _ _ _ _ => true
  | _ => false
theorem all_split {L : List Jvm.Cond} {P : Jvm.Cond → Bool} (h1 : L.all (fun c => isCode c || P c) = true) (h2 : ∀ c ∈ L.filter isCode, P c = true) : L.all P = true := by
  refine List.all_eq_true.mpr fun c hc => ?_
  have h := List.all_eq_true.mp h1 c hc
  rcases Bool.eq_false_or_eq_true (isCode c) with hi | hi
  · exact h2 c (List.mem_filter.mpr ⟨hc, hi⟩)
  · simpa [hi] using h
set_option maxRecDepth 65536 in
theorem w_c0 : (Jvm.Cond.code x code maxLocals ret).before args0 about1 = true := code_word (m := ⟨1, 1⟩) (meth := k1m1) (c := k1c1) (by decide +kernel) rfl rfl rfl (by decide +kernel)
set_option maxRecDepth 65536 in
theorem w_c1 : (Jvm.Cond.code ({ cls := "com/example/earnline/earnline/book/LedgerExportNamedPinLaw", name := "cut", desc := "([CI)Ljava/lang/String;" } : Jvm.MethodName) method_4_code (2 : Nat) (Option.some (Jvm.ClassFile.FieldType.object "java/lang/String"))).before args0 about1 = true := code_word (m := ⟨1, 3⟩) (meth := k1m3) (c := k1c3) (by decide +kernel) rfl rfl rfl (by decide +kernel)
set_option maxRecDepth 65536 in
theorem w_c2 : (Jvm.Cond.code ({ cls := "java/lang/String", name := "<init>", desc := "([C)V" } : Jvm.MethodName) jdk_42_method_3_code (2 : Nat) (Option.none : Option Jvm.ClassFile.FieldType)).before args0 about1 = true := code_word (m := ⟨7, 1⟩) (meth := k7m1) (c := k7c1) (by decide +kernel) rfl rfl rfl (by decide +kernel)
set_option maxRecDepth 65536 in
theorem w_c3 : (Jvm.Cond.code ({ cls := "java/lang/String", name := "<init>", desc := "([CIILjava/lang/Void;)V" } : Jvm.MethodName) jdk_42_method_149_code (6 : Nat) (Option.none : Option Jvm.ClassFile.FieldType)).before args0 about1 = true := code_word (m := ⟨7, 3⟩) (meth := k7m3) (c := k7c3) (by decide +kernel) rfl rfl rfl (by decide +kernel)
set_option maxRecDepth 65536 in
theorem w_c4 : (Jvm.Cond.code ({ cls := "java/lang/Object", name := "<init>", desc := "()V" } : Jvm.MethodName) object_method_1_code (1 : Nat) (Option.none : Option Jvm.ClassFile.FieldType)).before args0 about1 = true := code_word (m := ⟨0, 0⟩) (meth := k0m0) (c := k0c0) (by decide +kernel) rfl rfl rfl (by decide +kernel)
set_option maxRecDepth 65536 in
theorem w_c5 : (Jvm.Cond.code ({ cls := "java/lang/StringUTF16", name := "compress", desc := "([CII)[B" } : Jvm.MethodName) jdk_52_method_16_code (6 : Nat) (Option.some (Jvm.ClassFile.FieldType.array Jvm.ClassFile.FieldType.byte))).before args0 about1 = true := code_word (m := ⟨8, 2⟩) (meth := k8m2) (c := k8c2) (by decide +kernel) rfl rfl rfl (by decide +kernel)
set_option maxRecDepth 65536 in
theorem w_c6 : (Jvm.Cond.code ({ cls := "java/lang/StringUTF16", name := "compress", desc := "([CI[BII)I" } : Jvm.MethodName) jdk_52_method_21_code (7 : Nat) (Option.some Jvm.ClassFile.FieldType.int)).before args0 about1 = true := code_word (m := ⟨8, 3⟩) (meth := k8m3) (c := k8c3) (by decide +kernel) rfl rfl rfl (by decide +kernel)
set_option maxRecDepth 65536 in
theorem w_c7 : (Jvm.Cond.code ({ cls := "java/lang/StringUTF16", name := "coderFromArrayLen", desc := "([BI)B" } : Jvm.MethodName) jdk_52_method_15_code (2 : Nat) (Option.some Jvm.ClassFile.FieldType.byte)).before args0 about1 = true := code_word (m := ⟨8, 1⟩) (meth := k8m1) (c := k8c1) (by decide +kernel) rfl rfl rfl (by decide +kernel)
set_option maxRecDepth 65536 in
theorem w_c8 : (Jvm.Cond.code ({ cls := "com/example/earnline/earnline/book/LedgerExport", name := "named", desc := "(Ljava/lang/String;)Lcom/example/earnline/earnline/book/LedgerExport;" } : Jvm.MethodName) prog_38_method_4_code (5 : Nat) (Option.some (Jvm.ClassFile.FieldType.object "com/example/earnline/earnline/book/LedgerExport"))).before args0 about1 = true := code_word (m := ⟨10, 1⟩) (meth := k10m1) (c := k10c1) (by decide +kernel) rfl rfl rfl (by decide +kernel)
set_option maxRecDepth 65536 in
theorem w_c9 : (Jvm.Cond.code ({ cls := "com/example/earnline/earnline/book/LedgerExport", name := "values", desc := "()[Lcom/example/earnline/earnline/book/LedgerExport;" } : Jvm.MethodName) prog_38_method_1_code (0 : Nat) (Option.some (Jvm.ClassFile.FieldType.array (Jvm.ClassFile.FieldType.object "com/example/earnline/earnline/book/LedgerExport")))).before args0 about1 = true := code_word (m := ⟨10, 0⟩) (meth := k10m0) (c := k10c0) (by decide +kernel) rfl rfl rfl (by decide +kernel)
set_option maxRecDepth 65536 in
theorem w_c10 : (Jvm.Cond.code ({ cls := "java/lang/String", name := "equals", desc := "(Ljava/lang/Object;)Z" } : Jvm.MethodName) jdk_42_method_66_code (3 : Nat) (Option.some Jvm.ClassFile.FieldType.boolean)).before args0 about1 = true := code_word (m := ⟨7, 2⟩) (meth := k7m2) (c := k7c2) (by decide +kernel) rfl rfl rfl (by decide +kernel)
set_option maxRecDepth 65536 in
theorem w_c11 : (Jvm.Cond.code ({ cls := "java/lang/StringLatin1", name := "equals", desc := "([B[B)Z" } : Jvm.MethodName) jdk_43_method_13_code (3 : Nat) (Option.some Jvm.ClassFile.FieldType.boolean)).before args0 about1 = true := code_word (m := ⟨13, 1⟩) (meth := k13m1) (c := k13c1) (by decide +kernel) rfl rfl rfl (by decide +kernel)
set_option maxRecDepth 65536 in
theorem w_c12 : (Jvm.Cond.code ({ cls := "com/example/earnline/earnline/book/LedgerExportNamedPinLaw", name := "expected", desc := "(Ljava/lang/String;)Lcom/example/earnline/earnline/book/LedgerExport;" } : Jvm.MethodName) method_3_code (1 : Nat) (Option.some (Jvm.ClassFile.FieldType.object "com/example/earnline/earnline/book/LedgerExport"))).before args0 about1 = true := code_word (m := ⟨1, 2⟩) (meth := k1m2) (c := k1c2) (by decide +kernel) rfl rfl rfl (by decide +kernel)
def codes1 : List Jvm.Cond := [Jvm.Cond.code x code maxLocals ret, Jvm.Cond.code ({ cls := "com/example/earnline/earnline/book/LedgerExportNamedPinLaw", name := "cut", desc := "([CI)Ljava/lang/String;" } : Jvm.MethodName) method_4_code (2 : Nat) (Option.some (Jvm.ClassFile.FieldType.object "java/lang/String")), Jvm.Cond.code ({ cls := "java/lang/String", name := "<init>", desc := "([C)V" } : Jvm.MethodName) jdk_42_method_3_code (2 : Nat) (Option.none : Option Jvm.ClassFile.FieldType), Jvm.Cond.code ({ cls := "java/lang/String", name := "<init>", desc := "([CIILjava/lang/Void;)V" } : Jvm.MethodName) jdk_42_method_149_code (6 : Nat) (Option.none : Option Jvm.ClassFile.FieldType), Jvm.Cond.code ({ cls := "java/lang/Object", name := "<init>", desc := "()V" } : Jvm.MethodName) object_method_1_code (1 : Nat) (Option.none : Option Jvm.ClassFile.FieldType), Jvm.Cond.code ({ cls := "java/lang/StringUTF16", name := "compress", desc := "([CII)[B" } : Jvm.MethodName) jdk_52_method_16_code (6 : Nat) (Option.some (Jvm.ClassFile.FieldType.array Jvm.ClassFile.FieldType.byte)), Jvm.Cond.code ({ cls := "java/lang/StringUTF16", name := "compress", desc := "([CI[BII)I" } : Jvm.MethodName) jdk_52_method_21_code (7 : Nat) (Option.some Jvm.ClassFile.FieldType.int), Jvm.Cond.code ({ cls := "java/lang/StringUTF16", name := "coderFromArrayLen", desc := "([BI)B" } : Jvm.MethodName) jdk_52_method_15_code (2 : Nat) (Option.some Jvm.ClassFile.FieldType.byte), Jvm.Cond.code ({ cls := "com/example/earnline/earnline/book/LedgerExport", name := "named", desc := "(Ljava/lang/String;)Lcom/example/earnline/earnline/book/LedgerExport;" } : Jvm.MethodName) prog_38_method_4_code (5 : Nat) (Option.some (Jvm.ClassFile.FieldType.object "com/example/earnline/earnline/book/LedgerExport")), Jvm.Cond.code ({ cls := "com/example/earnline/earnline/book/LedgerExport", name := "values", desc := "()[Lcom/example/earnline/earnline/book/LedgerExport;" } : Jvm.MethodName) prog_38_method_1_code (0 : Nat) (Option.some (Jvm.ClassFile.FieldType.array (Jvm.ClassFile.FieldType.object "com/example/earnline/earnline/book/LedgerExport"))), Jvm.Cond.code ({ cls := "java/lang/String", name := "equals", desc := "(Ljava/lang/Object;)Z" } : Jvm.MethodName) jdk_42_method_66_code (3 : Nat) (Option.some Jvm.ClassFile.FieldType.boolean), Jvm.Cond.code ({ cls := "java/lang/StringLatin1", name := "equals", desc := "([B[B)Z" } : Jvm.MethodName) jdk_43_method_13_code (3 : Nat) (Option.some Jvm.ClassFile.FieldType.boolean), Jvm.Cond.code ({ cls := "com/example/earnline/earnline/book/LedgerExportNamedPinLaw", name := "expected", desc := "(Ljava/lang/String;)Lcom/example/earnline/earnline/book/LedgerExport;" } : Jvm.MethodName) method_3_code (1 : Nat) (Option.some (Jvm.ClassFile.FieldType.object "com/example/earnline/earnline/book/LedgerExport"))]
set_option maxRecDepth 65536 in
theorem codes_eq : words1.filter isCode = codes1 := rfl
theorem w_codes : ∀ c ∈ words1.filter isCode, c.before args0 about1 = true := by
  rw [codes_eq]
  intro c hc
  simp only [codes1, List.mem_cons, List.not_mem_nil, or_false] at hc
  rcases hc with rfl | rfl | rfl | rfl | rfl | rfl | rfl | rfl | rfl | rfl | rfl | rfl | rfl
  · exact w_c0
  · exact w_c1
  · exact w_c2
  · exact w_c3
  · exact w_c4
  · exact w_c5
  · exact w_c6
  · exact w_c7
  · exact w_c8
  · exact w_c9
  · exact w_c10
  · exact w_c11
  · exact w_c12
set_option maxRecDepth 65536 in
theorem w_t1 : (words1.take 24).all (fun c => isCode c || c.before args0 about1) = true := by decide +kernel
set_option maxRecDepth 65536 in
theorem w_t2 : ((words1.drop 24).take 24).all (fun c => isCode c || c.before args0 about1) = true := by decide +kernel
set_option maxRecDepth 65536 in
theorem w_t3 : (((words1.drop 24).drop 24).take 24).all (fun c => isCode c || c.before args0 about1) = true := by decide +kernel
set_option maxRecDepth 65536 in
theorem w_t4 : (((words1.drop 24).drop 24).drop 24).all (fun c => isCode c || c.before args0 about1) = true := by decide +kernel
theorem w_tables : (allAtoms (Jvm.Cond.code x code maxLocals ret :: tables_1)).before args0 about1 = true := by
  rw [allAtoms_all]
  show words1.all (fun c => c.before args0 about1) = true
  refine all_split ?_ w_codes
  rw [← List.take_append_drop 24 words1, List.all_append, w_t1, ← List.take_append_drop 24 (words1.drop 24), List.all_append, w_t2, ← List.take_append_drop 24 ((words1.drop 24).drop 24), List.all_append, w_t3, w_t4]
  rfl
set_option maxRecDepth 65536 in
theorem w_rest : rest_1_c.before args0 about1 = true := by decide +kernel
set_option maxRecDepth 65536 in
theorem w_case : (Jvm.Cond.and given_1 narrow_1).before args0 about1 = true := by decide +kernel
set_option maxRecDepth 65536 in
theorem w_consts : constsHeld consts_1 about1 := Jvm.Lit.constsHeldB_iff.mp (by decide +kernel)
theorem w_applies : (headSpec (Jvm.Cond.code x code maxLocals ret :: tables_1) room_1).applies x e0.platform about1 = true :=
  (Spec.applies_iff w_frames).mpr ⟨w_running, w_runnable, w_alone, w_named, w_hears, w_ripe, w_room, w_tables⟩
theorem atStart : AtStart classFile x code maxLocals ret World_1 tables_1 room_1 Calls_1 rest_1 Pre_1 launch0 p0 e0 about1 theMethod args0 below0 :=
  ⟨lists_1, trivial, launch0.admits_env _ _ _, launch0.least_env, fairChoices_fair.cas, fairChoices_fair.clock, w_frames, w_args, w_heap, w_applies, ⟨w_consts, trivial⟩, w_rest, w_case⟩
end start1
theorem witness_1 : WitnessClaimed_1 := ⟨start1.p0, start1.e0, start1.about1, start1.theMethod, start1.args0, start1.below0, start1.atStart⟩
end Jvm.Pilot.@@N@@
