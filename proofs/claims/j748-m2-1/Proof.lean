import JvmDerived
import JvmDerived.Pilot.@@N@@Statement
import JvmDerived.Pilot.@@N@@Code
set_option linter.unusedVariables false
set_option linter.unusedSimpArgs false
/- laws to paste: Road.backV, Road.eqW, Road.codOf (cut by pick.py; bodies as the Statement names them) -/
namespace Jvm.Pilot.@@N@@
namespace StrChars
open Jvm Sem ClassFile Op Lib Jvm.Stand Jvm.Free.XT Jvm.Free.ALB Jvm.Free.JM Jvm.Free
open Jvm.Lib.Cold (StaticIs)
/-- a char array whose places are chars -/
def Ch (a : Addr) (A : Cell) (U : State) : Prop := Arr .char a A U ∧ Typed .char A
theorem Ch.mv {a : Addr} {A : Cell} {U U' : State} (h : Ch a A U) (hal : U.vm.Alike U'.vm) (hh : U'.heap = U.heap) : Ch a A U' := ⟨h.1.mv hal hh, h.2⟩
theorem Ch.keep {a : Addr} {A : Cell} {U U' : State} (h : Ch a A U) (hal : U.vm.Alike U'.vm) (hk : U'.heap[a]? = some A) : Ch a A U' := ⟨h.1.keep hal hk, h.2⟩
/-- what place i of a char[]'s cell holds -/
def cv (A : Cell) (i : Nat) : Int32 := match A.slots[i]? with | some (.int x) => x | _ => 0
theorem Ch.get {a : Addr} {A : Cell} {U : State} (h : Ch a A U) {i : Nat} (hi : i < A.slots.size) : A.slots[i]? = some (.int (cv A i)) := by
  have e := Array.getElem?_eq_getElem hi
  have f := h.2 i _ e
  unfold cv; rw [e]
  generalize A.slots[i] = v at f
  cases v <;> simp [fits] at f ⊢
/-- the byte that i2b leaves of a char -/
def lo8 (x : Int32) : Int32 := x.toInt8.toInt32
theorem fits_lo8 (y : Int32) : fits .byte (.int (lo8 y)) = true := by
  have h1 := y.toInt8.le_toInt
  have h2 := y.toInt8.toInt_lt
  simp only [lo8, fits, Bool.and_eq_true, decide_eq_true_eq, Int32.le_iff_toInt_le, Int8.toInt_toInt32, show (-128 : Int32).toInt = -128 from by decide, show (127 : Int32).toInt = 127 from by decide]
  omega
/-- A' is A but that each place j of lo .. hi - 1 holds f j -/
def Laid (A A' : Cell) (lo hi : Nat) (f : Nat → Value) : Prop := A'.cls = A.cls ∧ A'.vm = A.vm ∧ A'.slots.size = A.slots.size ∧ ∀ i, A'.slots[i]? = if lo ≤ i ∧ i < hi then some (f i) else A.slots[i]?
theorem Laid.zero (A : Cell) (lo : Nat) (f : Nat → Value) : Laid A A lo (lo + 0) f := ⟨rfl, rfl, rfl, fun i => by rw [if_neg (by omega)]⟩
theorem Laid.step {A Ak : Cell} {lo k : Nat} {f : Nat → Value} {v : Value} (h : Laid A Ak lo k f) (hlo : lo ≤ k) (hk : k < Ak.slots.size) (hv : v = f k) : Laid A (Ak.setSlot k v) lo (k + 1) f := by
  refine ⟨h.1, h.2.1, by simpa [Cell.setSlot] using h.2.2.1, fun i => ?_⟩
  by_cases e : k = i
  · subst e; rw [Cell.slots_setSlot_self v hk, if_pos (by omega), hv]
  · rw [Cell.slots_setSlot_ne v e, h.2.2.2 i]
    by_cases q : lo ≤ i ∧ i < k
    · rw [if_pos q, if_pos (by omega)]
    · rw [if_neg q, if_neg (by omega)]
def U16 : String := "java/lang/StringUTF16"
namespace Cmp5
def yN : MethodName := ⟨"java/lang/StringUTF16", "compress", "([CI[BII)I"⟩
abbrev yB : ByteArray := jdk_52_method_21_code
theorem d0 : decode yB 0 = .ok (.iconst 0, 1) := by decide +kernel
theorem d1 : decode yB 1 = .ok (.istore 5, 2) := by decide +kernel
theorem d3 : decode yB 3 = .ok (.iload 5, 2) := by decide +kernel
theorem d5 : decode yB 5 = .ok (.iload 4, 2) := by decide +kernel
theorem d7 : decode yB 7 = .ok (.if_icmp (.ge) 37, 3) := by decide +kernel
theorem d10 : decode yB 10 = .ok (.aload_n 0, 1) := by decide +kernel
theorem d11 : decode yB 11 = .ok (.iload_n 1, 1) := by decide +kernel
theorem d12 : decode yB 12 = .ok (.caload, 1) := by decide +kernel
theorem d13 : decode yB 13 = .ok (.istore 6, 2) := by decide +kernel
theorem d15 : decode yB 15 = .ok (.iload 6, 2) := by decide +kernel
theorem d17 : decode yB 17 = .ok (.sipush 255, 3) := by decide +kernel
theorem d20 : decode yB 20 = .ok (.if_icmp (.le) 6, 3) := by decide +kernel
theorem d26 : decode yB 26 = .ok (.aload_n 2, 1) := by decide +kernel
theorem d27 : decode yB 27 = .ok (.iload_n 3, 1) := by decide +kernel
theorem d28 : decode yB 28 = .ok (.iload 6, 2) := by decide +kernel
theorem d30 : decode yB 30 = .ok (.i2b, 1) := by decide +kernel
theorem d31 : decode yB 31 = .ok (.bastore, 1) := by decide +kernel
theorem d32 : decode yB 32 = .ok (.iinc 1 1, 3) := by decide +kernel
theorem d35 : decode yB 35 = .ok (.iinc 3 1, 3) := by decide +kernel
theorem d38 : decode yB 38 = .ok (.iinc 5 1, 3) := by decide +kernel
theorem d41 : decode yB 41 = .ok (.goto (-38), 3) := by decide +kernel
theorem d44 : decode yB 44 = .ok (.iload 4, 2) := by decide +kernel
theorem d46 : decode yB 46 = .ok (.ireturn, 1) := by decide +kernel
def site : List Cond := []
def tab : Cond := tabOf yN yB 7 (some .int) site
def P (b : Addr) (A : Cell) (d : Addr) (B : Cell) (o q len : Nat) (args : Array Value) (s : State) : Prop := args = #[.ref b, .int (Int32.ofNat o), .ref d, .int (Int32.ofNat q), .int (Int32.ofNat len)] ∧ Ch b A s ∧ Arr .byte d B s ∧ b ≠ d ∧ o + len ≤ A.slots.size ∧ q + len ≤ B.slots.size ∧ ∀ i, i < len → ¬ 255 < cv A (o + i)
def E (b : Addr) (A : Cell) (d : Addr) (B : Cell) (o q len : Nat) (r : Option Value) (s u : State) : Prop := r = some (.int (Int32.ofNat len)) ∧ ∃ B', Put d B' s u ∧ Laid B B' q (q + len) (fun j => Value.int (lo8 (cv A (o + (j - q)))))
/-- no char of the range above 255: len; the places written hold each char's low byte -/
theorem law (l : Launch) (b : Addr) (A : Cell) (d : Addr) (B : Cell) (o q len : Nat) : Law l yN 5 5 0 0 yB 7 (some .int) site (P b A d B o q len) (E b A d B o q len) (copyLocs d q len) 0 0 := by
  refine Law.of_walk (plainFor_of_name (by decide +kernel)) (by decide +kernel) (by decide +kernel) (by decide) (fun _ _ h => by rw [h.1]; rfl) (fun _ U U' hal hh h => ⟨h.1, h.2.1.mv hal hh, h.2.2.1.mv hal hh, h.2.2.2⟩) (fun r U U' V V' h1 hal h2 h => ⟨h.1, h.2.elim fun B' q => ⟨B', q.1.mv h1 h2, q.2⟩⟩) ?_
  intro p e s m args below meth c s₁ X0 hexec hbytes hml hret hlk hnm hown hh0 W hP
  obtain ⟨rfl, hA, hB, hne, l1, l2, hp⟩ := hP
  have c1 : Steps p.tables e below (s₁.setTop (entryFrame m #[.ref b, .int (Int32.ofNat o), .ref d, .int (Int32.ofNat q), .int (Int32.ofNat len)] 7)) (s₁.setTop (mkF m 0 #[.val (.ref b), .val (.int (Int32.ofNat o)), .val (.ref d), .val (.int (Int32.ofNat q)), .val (.int (Int32.ofNat len)), .unset, .unset] [])) := entry rfl
  have hA0 := hA.1.mv X0.warmed.alike hh0
  have hB0 := hB.mv X0.warmed.alike hh0
  have a31 := hA.1.2.2.2
  have c2 : Steps p.tables e below (s₁.setTop (entryFrame m #[.ref b, .int (Int32.ofNat o), .ref d, .int (Int32.ofNat q), .int (Int32.ofNat len)] 7)) (s₁.setTop (mkF m 3 #[.val (.ref b), .val (.int (Int32.ofNat o)), .val (.ref d), .val (.int (Int32.ofNat q)), .val (.int (Int32.ofNat len)), .val (.int 0), .unset] [])) := c1.trans (by
    refine iconstV X0.here hexec rfl 0 (hb hbytes d0) (by decide) ?_
    refine XS.istore X0.here hexec rfl (hb hbytes d1) rfl rfl ?_
    exact Steps.refl _)
  have loop : ∀ (r i : Nat), i + r = len → ∀ (z : Slot), (z = .unset ∨ ∃ w, z = .val w ∧ w.category = 1) → ∀ (Tl : State) (Bk : Cell), Stand p l e { frames := 0, locals := 0, cells := 0, slots := 0 } s m #[.ref b, .int (Int32.ofNat o), .ref d, .int (Int32.ofNat q), .int (Int32.ofNat len)] below meth c Tl ([] ++ copyLocs d q i) 0 0 → Put d Bk s₁ Tl → Laid B Bk q (q + i) (fun j => Value.int (lo8 (cv A (o + (j - q))))) →
      Steps p.tables e below (s₁.setTop (entryFrame m #[.ref b, .int (Int32.ofNat o), .ref d, .int (Int32.ofNat q), .int (Int32.ofNat len)] 7)) (Tl.setTop (mkF m 3 #[.val (.ref b), .val (.int (Int32.ofNat (o + i))), .val (.ref d), .val (.int (Int32.ofNat (q + i))), .val (.int (Int32.ofNat len)), .val (.int (Int32.ofNat i)), z] [])) → ∃ (T' : State) (B' : Cell) (z' : Slot), Stand p l e { frames := 0, locals := 0, cells := 0, slots := 0 } s m #[.ref b, .int (Int32.ofNat o), .ref d, .int (Int32.ofNat q), .int (Int32.ofNat len)] below meth c T' ([] ++ copyLocs d q len) 0 0 ∧ Put d B' s₁ T' ∧ Laid B B' q (q + len) (fun j => Value.int (lo8 (cv A (o + (j - q))))) ∧
      Steps p.tables e below (s₁.setTop (entryFrame m #[.ref b, .int (Int32.ofNat o), .ref d, .int (Int32.ofNat q), .int (Int32.ofNat len)] 7)) (T'.setTop (mkF m 3 #[.val (.ref b), .val (.int (Int32.ofNat (o + len))), .val (.ref d), .val (.int (Int32.ofNat (q + len))), .val (.int (Int32.ofNat len)), .val (.int (Int32.ofNat len)), z'] [])) := by
    intro r
    induction r with
    | zero =>
      intro i hi z hz Tl Bk Xl pl fl cl
      have hil : i = len := by omega
      rw [hil] at Xl fl cl
      exact ⟨Tl, Bk, z, Xl, pl, fl, cl⟩
    | succ r ih =>
      intro i hi z hz Tl Bk Xl pl fl cl
      have all := X0.warmed.alike.symm.trans Xl.warmed.alike
      have hAl := hA0.keep all (pl.other hne hA0.1)
      have hBk := hB0.like all pl.1 fl.1 fl.2.1 fl.2.2.1
      have hlt : q + i < Bk.slots.size := by rw [fl.2.2.1]; omega
      have c3 : Steps p.tables e below (s₁.setTop (entryFrame m #[.ref b, .int (Int32.ofNat o), .ref d, .int (Int32.ofNat q), .int (Int32.ofNat len)] 7)) (Tl.setTop (mkF m 12 #[.val (.ref b), .val (.int (Int32.ofNat (o + i))), .val (.ref d), .val (.int (Int32.ofNat (q + i))), .val (.int (Int32.ofNat len)), .val (.int (Int32.ofNat i)), z] [.int (Int32.ofNat (o + i)), .ref b])) := cl.trans (by
        refine XS.iload Xl.here hexec rfl (hb hbytes d3) rfl ?_
        refine XS.iload Xl.here hexec rfl (hb hbytes d5) rfl ?_
        refine XS.icmpNo Xl.here hexec rfl (hb hbytes d7) rfl (ii_ge_f (lt32 (by omega) (by omega))) ?_
        refine XS.aloadN Xl.here hexec rfl (hb hbytes d10) rfl rfl ?_
        refine XS.iloadN Xl.here hexec rfl (hb hbytes d11) rfl ?_
        exact Steps.refl _)
      have c4 : Steps p.tables e below (s₁.setTop (entryFrame m #[.ref b, .int (Int32.ofNat o), .ref d, .int (Int32.ofNat q), .int (Int32.ofNat len)] 7)) (Tl.setTop (mkF m 13 #[.val (.ref b), .val (.int (Int32.ofNat (o + i))), .val (.ref d), .val (.int (Int32.ofNat (q + i))), .val (.int (Int32.ofNat len)), .val (.int (Int32.ofNat i)), z] [.int (cv A (o + i))])) := c3.trans (by
        refine Xl.aget hexec hAl rfl (hA.get (i := o + i) (by omega)) rfl rfl (hb hbytes d12) ?_
        exact Steps.refl _)
      have c5 : Steps p.tables e below (s₁.setTop (entryFrame m #[.ref b, .int (Int32.ofNat o), .ref d, .int (Int32.ofNat q), .int (Int32.ofNat len)] 7)) (Tl.setTop (mkF m 15 #[.val (.ref b), .val (.int (Int32.ofNat (o + i))), .val (.ref d), .val (.int (Int32.ofNat (q + i))), .val (.int (Int32.ofNat len)), .val (.int (Int32.ofNat i)), .val (.int (cv A (o + i)))] [])) := c4.trans (by
        refine XS.istoreS Xl.here hexec rfl (hb hbytes d13) rfl rfl hz ?_
        exact Steps.refl _)
      have c6 : Steps p.tables e below (s₁.setTop (entryFrame m #[.ref b, .int (Int32.ofNat o), .ref d, .int (Int32.ofNat q), .int (Int32.ofNat len)] 7)) (Tl.setTop (mkF m 31 #[.val (.ref b), .val (.int (Int32.ofNat (o + i))), .val (.ref d), .val (.int (Int32.ofNat (q + i))), .val (.int (Int32.ofNat len)), .val (.int (Int32.ofNat i)), .val (.int (cv A (o + i)))] [.int (lo8 (cv A (o + i))), .int (Int32.ofNat (q + i)), .ref d])) := c5.trans (by
        refine XS.iload Xl.here hexec rfl (hb hbytes d15) rfl ?_
        refine sipushV Xl.here hexec rfl 255 (hb hbytes d17) (by decide) ?_
        refine XS.icmpYes Xl.here hexec rfl (pc0 := 20) rfl (hb hbytes d20) rfl (ii_le_t (hp i (by omega))) (by decide) rfl ?_
        refine XS.aloadN Xl.here hexec rfl (hb hbytes d26) rfl rfl ?_
        refine XS.iloadN Xl.here hexec rfl (hb hbytes d27) rfl ?_
        refine XS.iload Xl.here hexec rfl (hb hbytes d28) rfl ?_
        refine i2b Xl.here hexec rfl (hb hbytes d30) rfl ?_
        exact Steps.refl _)
      obtain ⟨T7, X7, p7, st7⟩ := Xl.aput hexec hBk rfl hlt rfl (fits_lo8 (cv A (o + i))) (g := (mkF m 31 #[.val (.ref b), .val (.int (Int32.ofNat (o + i))), .val (.ref d), .val (.int (Int32.ofNat (q + i))), .val (.int (Int32.ofNat len)), .val (.int (Int32.ofNat i)), .val (.int (cv A (o + i)))] [.int (lo8 (cv A (o + i))), .int (Int32.ofNat (q + i)), .ref d])) rfl (rest := []) rfl (hb hbytes d31)
      have c8 : Steps p.tables e below (s₁.setTop (entryFrame m #[.ref b, .int (Int32.ofNat o), .ref d, .int (Int32.ofNat q), .int (Int32.ofNat len)] 7)) (T7.setTop (mkF m 32 #[.val (.ref b), .val (.int (Int32.ofNat (o + i))), .val (.ref d), .val (.int (Int32.ofNat (q + i))), .val (.int (Int32.ofNat len)), .val (.int (Int32.ofNat i)), .val (.int (cv A (o + i)))] [])) := c6.trans (st7 _ (Steps.refl _))
      have c9 : Steps p.tables e below (s₁.setTop (entryFrame m #[.ref b, .int (Int32.ofNat o), .ref d, .int (Int32.ofNat q), .int (Int32.ofNat len)] 7)) (T7.setTop (mkF m 3 #[.val (.ref b), .val (.int (Int32.ofNat (o + i) + 1)), .val (.ref d), .val (.int (Int32.ofNat (q + i) + 1)), .val (.int (Int32.ofNat len)), .val (.int (Int32.ofNat i + 1)), .val (.int (cv A (o + i)))] [])) := c8.trans (by
        refine iincV X7.here hexec rfl 1 (hb hbytes d32) (by decide) rfl rfl ?_
        refine iincV X7.here hexec rfl 1 (hb hbytes d35) (by decide) rfl rfl ?_
        refine iincV X7.here hexec rfl 1 (hb hbytes d38) (by decide) rfl rfl ?_
        refine XS.goto X7.here hexec rfl (pc0 := 41) rfl (hb hbytes d41) (by decide) rfl ?_
        exact Steps.refl _)
      have c10 : Steps p.tables e below (s₁.setTop (entryFrame m #[.ref b, .int (Int32.ofNat o), .ref d, .int (Int32.ofNat q), .int (Int32.ofNat len)] 7)) (T7.setTop (mkF m 3 #[.val (.ref b), .val (.int (Int32.ofNat (o + (i + 1)))), .val (.ref d), .val (.int (Int32.ofNat (q + (i + 1)))), .val (.int (Int32.ofNat len)), .val (.int (Int32.ofNat (i + 1))), .val (.int (cv A (o + i)))] [])) := by
        have := c9
        rw [succ32, succ32, succ32] at this
        exact this
      exact ih (i + 1) (by omega) _ (Or.inr ⟨_, rfl, rfl⟩) T7 _ (by rw [copyLocs_step, ← List.append_assoc]; exact X7) (pl.trans p7) (fl.step (by omega) hlt (by simp)) c10
  obtain ⟨T9, B9, z9, X9, p9, f9, g9⟩ := loop len 0 (by omega) .unset (Or.inl rfl) s₁ B (by simpa [copyLocs] using X0) ⟨hB0.1, fun _ _ => rfl, rfl⟩ (Laid.zero _ _ _) c2
  have c11 : Steps p.tables e below (s₁.setTop (entryFrame m #[.ref b, .int (Int32.ofNat o), .ref d, .int (Int32.ofNat q), .int (Int32.ofNat len)] 7)) (T9.setTop (mkF m 46 #[.val (.ref b), .val (.int (Int32.ofNat (o + len))), .val (.ref d), .val (.int (Int32.ofNat (q + len))), .val (.int (Int32.ofNat len)), .val (.int (Int32.ofNat len)), z9] [.int (Int32.ofNat len)])) := g9.trans (by
    refine XS.iload X9.here hexec rfl (hb hbytes d3) rfl ?_
    refine XS.iload X9.here hexec rfl (hb hbytes d5) rfl ?_
    refine XS.icmpYes X9.here hexec rfl (pc0 := 7) rfl (hb hbytes d7) rfl (ii_ge_t (nlt32 (by omega) (Nat.le_refl _))) (by decide) rfl ?_
    refine XS.iload X9.here hexec rfl (hb hbytes d44) rfl ?_
    exact Steps.refl _)
  exact ⟨T9, some (.int (Int32.ofNat len)), _, _, _, X9, by simp, rfl, rfl, (fun h => by cases h), ⟨rfl, B9, p9.from hh0, f9⟩, fun fs hl => c11.trans (X9.ireturnOut hexec hret rfl (Or.inl rfl) (hb hbytes d46) hl)⟩
end Cmp5
namespace Cmp3
def yN : MethodName := ⟨"java/lang/StringUTF16", "compress", "([CII)[B"⟩
abbrev yB : ByteArray := jdk_52_method_16_code
theorem d0 : decode yB 0 = .ok (.iload_n 2, 1) := by decide +kernel
theorem d1 : decode yB 1 = .ok (.newarray .byte, 2) := by decide +kernel
theorem d3 : decode yB 3 = .ok (.astore_n 3, 1) := by decide +kernel
theorem d4 : decode yB 4 = .ok (.aload_n 0, 1) := by decide +kernel
theorem d5 : decode yB 5 = .ok (.iload_n 1, 1) := by decide +kernel
theorem d6 : decode yB 6 = .ok (.aload_n 3, 1) := by decide +kernel
theorem d7 : decode yB 7 = .ok (.iconst 0, 1) := by decide +kernel
theorem d8 : decode yB 8 = .ok (.iload_n 2, 1) := by decide +kernel
theorem d9 : decode yB 9 = .ok (.invokestatic 115, 3) := by decide +kernel
theorem d12 : decode yB 12 = .ok (.istore 4, 2) := by decide +kernel
theorem d14 : decode yB 14 = .ok (.iload 4, 2) := by decide +kernel
theorem d16 : decode yB 16 = .ok (.iload_n 2, 1) := by decide +kernel
theorem d17 : decode yB 17 = .ok (.if_icmp (.eq) 40, 3) := by decide +kernel
theorem d57 : decode yB 57 = .ok (.aload_n 3, 1) := by decide +kernel
theorem d58 : decode yB 58 = .ok (.areturn, 1) := by decide +kernel
def site : List Cond := [.arrayClass .byte, Cmp5.tab] ++ staticW U16 115 Cmp5.yN
def tab : Cond := tabOf yN yB 6 (some (.array .byte)) site
def P (b : Addr) (A : Cell) (o len : Nat) (args : Array Value) (s : State) : Prop := args = #[.ref b, .int (Int32.ofNat o), .int (Int32.ofNat len)] ∧ Ch b A s ∧ o + len ≤ A.slots.size ∧ len ≤ 536870912 ∧ ∀ i, i < len → ¬ 255 < cv A (o + i)
def E (b : Addr) (A : Cell) (o len : Nat) (r : Option Value) (s u : State) : Prop := NewArr .byte "[B" len (fun j => .int (lo8 (cv A (o + j)))) r s u ∧ u.heap.size = s.heap.size + 1
/-- no char of the range above 255: a new byte[] of their low bytes -/
theorem law (l : Launch) (b : Addr) (A : Cell) (o len : Nat) : Law l yN 3 3 1 18 yB 6 (some (.array .byte)) site (P b A o len) (E b A o len) [] 1 len := by
  refine Law.of_walk (plainFor_of_name (by decide +kernel)) (by decide +kernel) (by decide +kernel) (by decide) (fun _ _ h => by rw [h.1]; rfl) (fun _ U U' hal hh h => ⟨h.1, h.2.1.mv hal hh, h.2.2⟩) (fun r U U' V V' h1 hal h2 h => ⟨NewArr.mv r U U' V V' h1 hal h2 h.1, by rw [h1, h2]; exact h.2⟩) ?_
  intro p e s m args below meth c s₁ X0 hexec hbytes hml hret hlk hnm hown hh0 W hP
  obtain ⟨rfl, hA, l1, l2, hp⟩ := hP
  have a31 := hA.1.2.2.2
  have c1 : Steps p.tables e below (s₁.setTop (entryFrame m #[.ref b, .int (Int32.ofNat o), .int (Int32.ofNat len)] 6)) (s₁.setTop (mkF m 0 #[.val (.ref b), .val (.int (Int32.ofNat o)), .val (.int (Int32.ofNat len)), .unset, .unset, .unset] [])) := entry rfl
  have c2 : Steps p.tables e below (s₁.setTop (entryFrame m #[.ref b, .int (Int32.ofNat o), .int (Int32.ofNat len)] 6)) (s₁.setTop (mkF m 1 #[.val (.ref b), .val (.int (Int32.ofNat o)), .val (.int (Int32.ofNat len)), .unset, .unset, .unset] [.int (Int32.ofNat len)])) := c1.trans (by
    refine XS.iloadN X0.here hexec rfl (hb hbytes d0) rfl ?_
    exact Steps.refl _)
  obtain ⟨T3, B3, X3, ba3, bs3, bv3, bh3, bf3, st3⟩ := X0.anew hexec (atype := .byte) (wk W (.arrayClass .byte)) rfl (by show len * 1 ≤ _; omega) (by omega) (g := (mkF m 1 #[.val (.ref b), .val (.int (Int32.ofNat o)), .val (.int (Int32.ofNat len)), .unset, .unset, .unset] [.int (Int32.ofNat len)])) rfl (hb hbytes d1) (rest := []) rfl (Nat.le_refl _) (by show 0 + len ≤ len; omega)
  rw [hh0] at ba3 st3
  have kp3 : XT.Kept s T3 := (XT.Kept.of_eq hh0).push bh3
  have hA3 := hA.keep X3.warmed.alike (kp3 _ _ hA.1.1)
  have hne : b ≠ s.heap.size := hA.1.ne
  have c4 : Steps p.tables e below (s₁.setTop (entryFrame m #[.ref b, .int (Int32.ofNat o), .int (Int32.ofNat len)] 6)) (T3.setTop (mkF m 3 #[.val (.ref b), .val (.int (Int32.ofNat o)), .val (.int (Int32.ofNat len)), .unset, .unset, .unset] [.ref s.heap.size])) := c2.trans (st3 _ (Steps.refl _))
  have c5 : Steps p.tables e below (s₁.setTop (entryFrame m #[.ref b, .int (Int32.ofNat o), .int (Int32.ofNat len)] 6)) (T3.setTop (mkF m 9 #[.val (.ref b), .val (.int (Int32.ofNat o)), .val (.int (Int32.ofNat len)), .val (.ref s.heap.size), .unset, .unset] [.int (Int32.ofNat len), .int 0, .ref s.heap.size, .int (Int32.ofNat o), .ref b])) := c4.trans (by
    refine XS.astoreN X3.here hexec rfl (hb hbytes d3) rfl rfl rfl ?_
    refine XS.aloadN X3.here hexec rfl (hb hbytes d4) rfl rfl ?_
    refine XS.iloadN X3.here hexec rfl (hb hbytes d5) rfl ?_
    refine XS.aloadN X3.here hexec rfl (hb hbytes d6) rfl rfl ?_
    refine iconstV X3.here hexec rfl 0 (hb hbytes d7) (by decide) ?_
    refine XS.iloadN X3.here hexec rfl (hb hbytes d8) rfl ?_
    exact Steps.refl _)
  obtain ⟨v6, T6, X6, E6, g6⟩ := X3.callS hexec (Cmp5.law l b A s.heap.size B3 o 0 len) hown (wks W (staticW U16 115 Cmp5.yN)) (wk W Cmp5.tab) (W := 0) (Nat.le_of_ble_eq_true rfl) (Nat.le_of_ble_eq_true rfl) (Nat.le_refl _) (by show 0 + len + 0 ≤ len; omega) (g := (mkF m 9 #[.val (.ref b), .val (.int (Int32.ofNat o)), .val (.int (Int32.ofNat len)), .val (.ref s.heap.size), .unset, .unset] [.int (Int32.ofNat len), .int (Int32.ofNat 0), .ref s.heap.size, .int (Int32.ofNat o), .ref b])) rfl (by rw [hml]; rfl) c5 (argsL := [.ref b, .int (Int32.ofNat o), .ref s.heap.size, .int (Int32.ofNat 0), .int (Int32.ofNat len)]) (rest := []) rfl rfl (by show 2 * 0 + 0 ≤ _; decide) (hb hbytes d9) (⟨rfl, hA3, ba3, hne, l1, by rw [bs3]; simp, hp⟩)
  obtain ⟨rfl, B6, p6, f6⟩ := E6
  have c7 : Steps p.tables e below (s₁.setTop (entryFrame m #[.ref b, .int (Int32.ofNat o), .int (Int32.ofNat len)] 6)) (T6.setTop (mkF m 12 #[.val (.ref b), .val (.int (Int32.ofNat o)), .val (.int (Int32.ofNat len)), .val (.ref s.heap.size), .unset, .unset] [.int (Int32.ofNat len)])) := g6
  have c8 : Steps p.tables e below (s₁.setTop (entryFrame m #[.ref b, .int (Int32.ofNat o), .int (Int32.ofNat len)] 6)) (T6.setTop (mkF m 58 #[.val (.ref b), .val (.int (Int32.ofNat o)), .val (.int (Int32.ofNat len)), .val (.ref s.heap.size), .val (.int (Int32.ofNat len)), .unset] [.ref s.heap.size])) := c7.trans (by
    refine XS.istore X6.here hexec rfl (hb hbytes d12) rfl rfl ?_
    refine XS.iload X6.here hexec rfl (hb hbytes d14) rfl ?_
    refine XS.iloadN X6.here hexec rfl (hb hbytes d16) rfl ?_
    refine XS.icmpYes X6.here hexec rfl (pc0 := 17) rfl (hb hbytes d17) rfl (ii_eq_t rfl) (by decide) rfl ?_
    refine XS.aloadN X6.here hexec rfl (hb hbytes d57) rfl rfl ?_
    exact Steps.refl _)
  have X8 := X6.wide (L' := []) (cells' := 1) (slots' := len) (fun x hx hlt => by
    simp only [List.nil_append, copyLocs, List.mem_map, List.mem_range] at hx
    obtain ⟨i, -, rfl⟩ := hx
    exact absurd hlt (Nat.lt_irrefl _)) (Nat.le_refl _) (by omega)
  exact ⟨T6, some (.ref s.heap.size), _, _, _, X8, rfl, rfl, rfl, (fun h => by cases h), ⟨⟨rfl, B6, ba3.like (X3.warmed.alike.symm.trans X6.warmed.alike) p6.1 f6.1 f6.2.1 f6.2.2.1, f6.2.1.trans bv3, by rw [X6.warmed.alike.findClass, f6.1]; exact bf3, by rw [f6.2.2.1, bs3]; simp, fun j hj => by rw [f6.2.2.2 j, if_pos (by omega)]; rfl, kp3.put p6 (Nat.le_refl _)⟩, by rw [p6.2.2, bh3, hh0]; simp⟩, fun fs hl => c8.trans (X8.areturnOut hexec rfl hret rfl (hb hbytes d58) hl)⟩
end Cmp3
namespace CodL
def yN : MethodName := ⟨"java/lang/StringUTF16", "coderFromArrayLen", "([BI)B"⟩
abbrev yB : ByteArray := jdk_52_method_15_code
theorem d0 : decode yB 0 = .ok (.iload_n 1, 1) := by decide +kernel
theorem d1 : decode yB 1 = .ok (.aload_n 0, 1) := by decide +kernel
theorem d2 : decode yB 2 = .ok (.arraylength, 1) := by decide +kernel
theorem d3 : decode yB 3 = .ok (.isub, 1) := by decide +kernel
theorem d4 : decode yB 4 = .ok (.bipush 31, 2) := by decide +kernel
theorem d6 : decode yB 6 = .ok (.iushr, 1) := by decide +kernel
theorem d7 : decode yB 7 = .ok (.i2b, 1) := by decide +kernel
theorem d8 : decode yB 8 = .ok (.ireturn, 1) := by decide +kernel
def site : List Cond := []
def tab : Cond := tabOf yN yB 2 (some .byte) site
def P (d : Addr) (B : Cell) (args : Array Value) (s : State) : Prop := args = #[.ref d, .int (Int32.ofNat B.slots.size)] ∧ Arr .byte d B s
def E (r : Option Value) (s u : State) : Prop := XT.PureE (some (.int 0)) r s u
/-- an array as long as the number of chars: LATIN1 -/
theorem law (l : Launch) (d : Addr) (B : Cell) : Law l yN 2 2 0 0 yB 2 (some .byte) site (P d B) E [] 0 0 := by
  refine Law.of_walk (plainFor_of_name (by decide +kernel)) (by decide +kernel) (by decide +kernel) (by decide) (fun _ _ h => by rw [h.1]; rfl) (fun _ U U' hal hh h => ⟨h.1, h.2.mv hal hh⟩) (fun r U U' V V' h1 hal h2 h => XT.PureE.mv r U U' V V' h1 hal h2 h) ?_
  intro p e s m args below meth c s₁ X0 hexec hbytes hml hret hlk hnm hown hh0 W hP
  obtain ⟨rfl, hB⟩ := hP
  have hB0 := hB.mv X0.warmed.alike hh0
  have c1 : Steps p.tables e below (s₁.setTop (entryFrame m #[.ref d, .int (Int32.ofNat B.slots.size)] 2)) (s₁.setTop (mkF m 0 #[.val (.ref d), .val (.int (Int32.ofNat B.slots.size))] [])) := entry rfl
  have c2 : Steps p.tables e below (s₁.setTop (entryFrame m #[.ref d, .int (Int32.ofNat B.slots.size)] 2)) (s₁.setTop (mkF m 2 #[.val (.ref d), .val (.int (Int32.ofNat B.slots.size))] [.ref d, .int (Int32.ofNat B.slots.size)])) := c1.trans (by
    refine XS.iloadN X0.here hexec rfl (hb hbytes d0) rfl ?_
    refine XS.aloadN X0.here hexec rfl (hb hbytes d1) rfl rfl ?_
    exact Steps.refl _)
  have c3 : Steps p.tables e below (s₁.setTop (entryFrame m #[.ref d, .int (Int32.ofNat B.slots.size)] 2)) (s₁.setTop (mkF m 8 #[.val (.ref d), .val (.int (Int32.ofNat B.slots.size))] [.int (lo8 (ushr (Int32.ofNat B.slots.size - Int32.ofNat B.slots.size) 31))])) := c2.trans (by
    refine X0.alen hexec hB0 rfl rfl (hb hbytes d2) ?_
    refine XS.isub X0.here hexec rfl (hb hbytes d3) rfl ?_
    refine bipushV X0.here hexec rfl 31 (hb hbytes d4) (by decide) ?_
    refine iushr X0.here hexec rfl (hb hbytes d6) rfl ?_
    refine i2b X0.here hexec rfl (hb hbytes d7) rfl ?_
    exact Steps.refl _)
  have e0 : lo8 (ushr (Int32.ofNat B.slots.size - Int32.ofNat B.slots.size) 31) = 0 := by rw [Int32.sub_self]; decide
  rw [e0] at c3
  exact ⟨s₁, some (.int 0), _, _, _, X0, rfl, rfl, rfl, (fun h => by cases h), ⟨rfl, hh0⟩, fun fs hl => c3.trans (X0.ireturnOut hexec hret rfl (Or.inr (Or.inr (Or.inl rfl))) (hb hbytes d8) hl)⟩
end CodL
/-- the String at a is Latin-1 over a new byte[] (the heap's one new cell): the low bytes of the len chars of A from o on; every cell but a is kept -/
def Got (a : Addr) (D : Cell) (fV fC : Field) (A : Cell) (o len : Nat) (r : Option Value) (s u : State) : Prop := r = none ∧ ∃ D' V : Cell, Blank "java/lang/String" a D' u ∧ Same D D' [fV.slot, fC.slot] ∧ D'.slots[fV.slot]? = some (.ref s.heap.size) ∧ D'.slots[fC.slot]? = some (.int 0) ∧ Arr .byte s.heap.size V u ∧ V.vm = .none ∧ u.vm.findClass "[B" = some V.cls ∧ V.slots.size = len ∧ (∀ j, j < len → V.slots[j]? = some (.int (lo8 (cv A (o + j))))) ∧ (∀ (y : Addr) (c : Cell), y ≠ a → s.heap[y]? = some c → u.heap[y]? = some c) ∧ u.heap.size = s.heap.size + 1
theorem Got.mv {a : Addr} {D A : Cell} {fV fC : Field} {o len : Nat} : ∀ r (U U' V V' : State), U'.heap = U.heap → V.vm.Alike V'.vm → V'.heap = V.heap → Got a D fV fC A o len r U V → Got a D fV fC A o len r U' V' :=
  fun r U U' V V' h1 hal h2 ⟨e0, D', X, a1, a2, a3, a4, a5, a6, a7, a8, a9, a10, a11⟩ => ⟨e0, D', X, a1.mv hal h2, a2, by rw [h1]; exact a3, a4, by rw [h1]; exact a5.mv hal h2, a6, by rw [hal.findClass]; exact a7, a8, a9, by rw [h1, h2]; exact a10, by rw [h1, h2]; exact a11⟩
namespace New4
def yN : MethodName := ⟨"java/lang/String", "<init>", "([CIILjava/lang/Void;)V"⟩
abbrev yB : ByteArray := jdk_42_method_149_code
theorem d0 : decode yB 0 = .ok (.aload_n 0, 1) := by decide +kernel
theorem d1 : decode yB 1 = .ok (.invokespecial 1, 3) := by decide +kernel
theorem d4 : decode yB 4 = .ok (.iload_n 3, 1) := by decide +kernel
theorem d5 : decode yB 5 = .ok (.ifCond (.ne) 22, 3) := by decide +kernel
theorem d27 : decode yB 27 = .ok (.getstatic 38, 3) := by decide +kernel
theorem d30 : decode yB 30 = .ok (.ifCond (.eq) 28, 3) := by decide +kernel
theorem d33 : decode yB 33 = .ok (.aload_n 1, 1) := by decide +kernel
theorem d34 : decode yB 34 = .ok (.iload_n 2, 1) := by decide +kernel
theorem d35 : decode yB 35 = .ok (.iload_n 3, 1) := by decide +kernel
theorem d36 : decode yB 36 = .ok (.invokestatic 177, 3) := by decide +kernel
theorem d39 : decode yB 39 = .ok (.astore 5, 2) := by decide +kernel
theorem d41 : decode yB 41 = .ok (.aload_n 0, 1) := by decide +kernel
theorem d42 : decode yB 42 = .ok (.aload 5, 2) := by decide +kernel
theorem d44 : decode yB 44 = .ok (.iload_n 3, 1) := by decide +kernel
theorem d45 : decode yB 45 = .ok (.invokestatic 47, 3) := by decide +kernel
theorem d48 : decode yB 48 = .ok (.putfield 15, 3) := by decide +kernel
theorem d51 : decode yB 51 = .ok (.aload_n 0, 1) := by decide +kernel
theorem d52 : decode yB 52 = .ok (.aload 5, 2) := by decide +kernel
theorem d54 : decode yB 54 = .ok (.putfield 9, 3) := by decide +kernel
theorem d57 : decode yB 57 = .ok (.return_, 1) := by decide +kernel
def site : List Cond := [.fieldLink "java/lang/String" 38 "java/lang/String" "COMPACT_STRINGS" "Z", Cmp3.tab, CodL.tab, .laysFinal "java/lang/String" "java/lang/String" "value" "[B", .fieldLink "java/lang/String" 9 "java/lang/String" "value" "[B", .laysFinal "java/lang/String" "java/lang/String" "coder" "B", .fieldLink "java/lang/String" 15 "java/lang/String" "coder" "B"] ++ objW "java/lang/String" 1 ++ staticW "java/lang/String" 177 Cmp3.yN ++ staticW "java/lang/String" 47 CodL.yN
def tab : Cond := tabOf yN yB 6 none site
def P (a : Addr) (D : Cell) (fV fC : Field) (b : Addr) (A : Cell) (z : Int32) (o len : Nat) (args : Array Value) (s : State) : Prop := args = #[.ref a, .ref b, .int (Int32.ofNat o), .int (Int32.ofNat len), .null] ∧ Blank "java/lang/String" a D s ∧ Found "java/lang/String" "value" "[B" fV s ∧ Found "java/lang/String" "coder" "B" fC s ∧ Ch b A s ∧ StaticIs s "java/lang/String" "COMPACT_STRINGS" "Z" (.int z) ∧ ¬ z = 0 ∧ 0 < len ∧ o + len ≤ A.slots.size ∧ len ≤ 536870912 ∧ ∀ i, i < len → ¬ 255 < cv A (o + i)
def E (a : Addr) (D : Cell) (fV fC : Field) (A : Cell) (o len : Nat) (r : Option Value) (s u : State) : Prop := Got a D fV fC A o len r s u
/-- len > 0, no char of the range above 255: a Latin-1 String of their low bytes -/
theorem law (l : Launch) (a : Addr) (D : Cell) (fV fC : Field) (b : Addr) (A : Cell) (z : Int32) (o len : Nat) : Law l yN 5 4 2 35 yB 6 none site (P a D fV fC b A z o len) (E a D fV fC A o len) [⟨a, fC.slot⟩, ⟨a, fV.slot⟩] 1 len := by
  refine Law.of_walk (plainFor_of_name (by decide +kernel)) (by decide +kernel) (by decide +kernel) (by decide) (fun _ _ h => by rw [h.1]; rfl) (fun _ U U' hal hh h => ⟨h.1, h.2.1.mv hal hh, h.2.2.1.al hal, h.2.2.2.1.al hal, h.2.2.2.2.1.mv hal hh, h.2.2.2.2.2.1.there hal hh, h.2.2.2.2.2.2⟩) (fun r U U' V V' h1 hal h2 h => Got.mv r U U' V V' h1 hal h2 h) ?_
  intro p e s m args below meth c s₁ X0 hexec hbytes hml hret hlk hnm hown hh0 W hP
  obtain ⟨rfl, hB, f1, f2, hA, s1, hz, l0, l1, l2, hp⟩ := hP
  have a31 := hA.1.2.2.2
  have c1 : Steps p.tables e below (s₁.setTop (entryFrame m #[.ref a, .ref b, .int (Int32.ofNat o), .int (Int32.ofNat len), .null] 6)) (s₁.setTop (mkF m 0 #[.val (.ref a), .val (.ref b), .val (.int (Int32.ofNat o)), .val (.int (Int32.ofNat len)), .val .null, .unset] [])) := entry rfl
  have c2 : Steps p.tables e below (s₁.setTop (entryFrame m #[.ref a, .ref b, .int (Int32.ofNat o), .int (Int32.ofNat len), .null] 6)) (s₁.setTop (mkF m 1 #[.val (.ref a), .val (.ref b), .val (.int (Int32.ofNat o)), .val (.int (Int32.ofNat len)), .val .null, .unset] [.ref a])) := c1.trans (by
    refine XS.aloadN X0.here hexec rfl (hb hbytes d0) rfl rfl ?_
    exact Steps.refl _)
  obtain ⟨T3, X3, q3, st3⟩ := X0.oinit hexec hown (wks W (objW "java/lang/String" 1)) (g := (mkF m 1 #[.val (.ref a), .val (.ref b), .val (.int (Int32.ofNat o)), .val (.int (Int32.ofNat len)), .val .null, .unset] [.ref a])) rfl (by rw [hml]; rfl) (rest := []) rfl (hb hbytes d1) (W := 0) (by show 2 * 0 + 0 ≤ _; decide) (Nat.le_of_ble_eq_true rfl) (Nat.le_of_ble_eq_true rfl)
  have hh3 := q3.trans hh0
  have c4 : Steps p.tables e below (s₁.setTop (entryFrame m #[.ref a, .ref b, .int (Int32.ofNat o), .int (Int32.ofNat len), .null] 6)) (T3.setTop (mkF m 27 #[.val (.ref a), .val (.ref b), .val (.int (Int32.ofNat o)), .val (.int (Int32.ofNat len)), .val .null, .unset] [])) := (c2.trans (st3 _ (Steps.refl _))).trans (by
    refine XS.iloadN X3.here hexec rfl (hb hbytes d4) rfl ?_
    refine XS.ifYes X3.here hexec rfl (pc0 := 5) rfl (hb hbytes d5) rfl (i0_ne_t (nz32 (by omega) l0)) (by decide) rfl ?_
    exact Steps.refl _)
  obtain ⟨T5, X5, q5, st5⟩ := X3.sget hexec hown (wk W (.fieldLink "java/lang/String" 38 "java/lang/String" "COMPACT_STRINGS" "Z")) s1 (fun _ _ h => by rw [hh3]; exact h) (g := (mkF m 27 #[.val (.ref a), .val (.ref b), .val (.int (Int32.ofNat o)), .val (.int (Int32.ofNat len)), .val .null, .unset] [])) rfl (hb hbytes d27)
  have hh5 := q5.trans hh3
  have c6 : Steps p.tables e below (s₁.setTop (entryFrame m #[.ref a, .ref b, .int (Int32.ofNat o), .int (Int32.ofNat len), .null] 6)) (T5.setTop (mkF m 30 #[.val (.ref a), .val (.ref b), .val (.int (Int32.ofNat o)), .val (.int (Int32.ofNat len)), .val .null, .unset] [.int z])) := c4.trans (st5 _ (Steps.refl _))
  have c7 : Steps p.tables e below (s₁.setTop (entryFrame m #[.ref a, .ref b, .int (Int32.ofNat o), .int (Int32.ofNat len), .null] 6)) (T5.setTop (mkF m 36 #[.val (.ref a), .val (.ref b), .val (.int (Int32.ofNat o)), .val (.int (Int32.ofNat len)), .val .null, .unset] [.int (Int32.ofNat len), .int (Int32.ofNat o), .ref b])) := c6.trans (by
    refine XS.ifNo X5.here hexec rfl (hb hbytes d30) rfl (i0_eq_f hz) ?_
    refine XS.aloadN X5.here hexec rfl (hb hbytes d33) rfl rfl ?_
    refine XS.iloadN X5.here hexec rfl (hb hbytes d34) rfl ?_
    refine XS.iloadN X5.here hexec rfl (hb hbytes d35) rfl ?_
    exact Steps.refl _)
  obtain ⟨v8, T8, X8, E8, g8⟩ := X5.callS hexec (Cmp3.law l b A o len) hown (wks W (staticW "java/lang/String" 177 Cmp3.yN)) (wk W Cmp3.tab) (W := 0) (Nat.le_of_ble_eq_true rfl) (Nat.le_of_ble_eq_true rfl) (Nat.le_refl _) (by show 0 + len ≤ len; omega) (g := (mkF m 36 #[.val (.ref a), .val (.ref b), .val (.int (Int32.ofNat o)), .val (.int (Int32.ofNat len)), .val .null, .unset] [.int (Int32.ofNat len), .int (Int32.ofNat o), .ref b])) rfl (by rw [hml]; rfl) c7 (argsL := [.ref b, .int (Int32.ofNat o), .int (Int32.ofNat len)]) (rest := []) rfl rfl (by show 2 * 0 + 0 ≤ _; decide) (hb hbytes d36) (⟨rfl, hA.mv X5.warmed.alike hh5, l1, l2, hp⟩)
  obtain ⟨e8, z8⟩ := E8
  obtain ⟨rfl, N, n1, n2, n3, n4, n5, n6⟩ := NewArr.mv _ T5 s _ _ hh5.symm (Vm.Alike.refl _) rfl e8
  rw [hh5] at z8
  have hB1 := hB.keep X8.warmed.alike (n6 _ _ hB.1)
  have hne : s.heap.size ≠ a := (Nat.ne_of_lt (Array.getElem?_eq_some_iff.mp hB.1).1).symm
  have c9 : Steps p.tables e below (s₁.setTop (entryFrame m #[.ref a, .ref b, .int (Int32.ofNat o), .int (Int32.ofNat len), .null] 6)) (T8.setTop (mkF m 39 #[.val (.ref a), .val (.ref b), .val (.int (Int32.ofNat o)), .val (.int (Int32.ofNat len)), .val .null, .unset] [.ref s.heap.size])) := g8
  have c10 : Steps p.tables e below (s₁.setTop (entryFrame m #[.ref a, .ref b, .int (Int32.ofNat o), .int (Int32.ofNat len), .null] 6)) (T8.setTop (mkF m 45 #[.val (.ref a), .val (.ref b), .val (.int (Int32.ofNat o)), .val (.int (Int32.ofNat len)), .val .null, .val (.ref s.heap.size)] [.int (Int32.ofNat N.slots.size), .ref s.heap.size, .ref a])) := by
    have hc : Steps p.tables e below (s₁.setTop (entryFrame m #[.ref a, .ref b, .int (Int32.ofNat o), .int (Int32.ofNat len), .null] 6)) (T8.setTop (mkF m 45 #[.val (.ref a), .val (.ref b), .val (.int (Int32.ofNat o)), .val (.int (Int32.ofNat len)), .val .null, .val (.ref s.heap.size)] [.int (Int32.ofNat len), .ref s.heap.size, .ref a])) := c9.trans (by
      refine XS.astore X8.here hexec rfl (hb hbytes d39) rfl rfl rfl ?_
      refine XS.aloadN X8.here hexec rfl (hb hbytes d41) rfl rfl ?_
      refine XS.aload X8.here hexec rfl (hb hbytes d42) rfl rfl ?_
      refine XS.iloadN X8.here hexec rfl (hb hbytes d44) rfl ?_
      exact Steps.refl _)
    rw [n4]; exact hc
  obtain ⟨v11, T11, X11, E11, g11⟩ := X8.callS hexec (CodL.law l s.heap.size N) hown (wks W (staticW "java/lang/String" 47 CodL.yN)) (wk W CodL.tab) (W := 1) (Nat.le_of_ble_eq_true rfl) (Nat.le_of_ble_eq_true rfl) (Nat.le_refl _) (by show 0 + len + 0 ≤ len; omega) (g := (mkF m 45 #[.val (.ref a), .val (.ref b), .val (.int (Int32.ofNat o)), .val (.int (Int32.ofNat len)), .val .null, .val (.ref s.heap.size)] [.int (Int32.ofNat N.slots.size), .ref s.heap.size, .ref a])) rfl (by rw [hml]; rfl) c10 (argsL := [.ref s.heap.size, .int (Int32.ofNat N.slots.size)]) (rest := [.ref a]) rfl rfl (by show 2 * 0 + (1 + 0) ≤ _; decide) (hb hbytes d45) (⟨rfl, n1⟩)
  obtain ⟨rfl, q11⟩ := E11
  have hB11 := hB1.mv (X8.warmed.alike.symm.trans X11.warmed.alike) q11
  have c12 : Steps p.tables e below (s₁.setTop (entryFrame m #[.ref a, .ref b, .int (Int32.ofNat o), .int (Int32.ofNat len), .null] 6)) (T11.setTop (mkF m 48 #[.val (.ref a), .val (.ref b), .val (.int (Int32.ofNat o)), .val (.int (Int32.ofNat len)), .val .null, .val (.ref s.heap.size)] [.int 0, .ref a])) := g11
  obtain ⟨T13, X13, p13, bl13, sl13, st13⟩ := X11.finit hexec hown (wk W (.fieldLink "java/lang/String" 15 "java/lang/String" "coder" "B")) (Or.inr ⟨_, (wk W (.laysFinal "java/lang/String" "java/lang/String" "coder" "B"))⟩) (Or.inl ⟨rfl, hnm⟩) f2 (Or.inl rfl) hB11 (t := .byte) (by decide +kernel) rfl (g := (mkF m 48 #[.val (.ref a), .val (.ref b), .val (.int (Int32.ofNat o)), .val (.int (Int32.ofNat len)), .val .null, .val (.ref s.heap.size)] [.int 0, .ref a])) rfl (rest := []) rfl (hb hbytes d48)
  have c14 : Steps p.tables e below (s₁.setTop (entryFrame m #[.ref a, .ref b, .int (Int32.ofNat o), .int (Int32.ofNat len), .null] 6)) (T13.setTop (mkF m 54 #[.val (.ref a), .val (.ref b), .val (.int (Int32.ofNat o)), .val (.int (Int32.ofNat len)), .val .null, .val (.ref s.heap.size)] [.ref s.heap.size, .ref a])) := (c12.trans (st13 _ (Steps.refl _))).trans (by
    refine XS.aloadN X13.here hexec rfl (hb hbytes d51) rfl rfl ?_
    refine XS.aload X13.here hexec rfl (hb hbytes d52) rfl rfl ?_
    exact Steps.refl _)
  obtain ⟨T15, X15, p15, bl15, sl15, st15⟩ := X13.finit hexec hown (wk W (.fieldLink "java/lang/String" 9 "java/lang/String" "value" "[B")) (Or.inr ⟨_, (wk W (.laysFinal "java/lang/String" "java/lang/String" "value" "[B"))⟩) (Or.inl ⟨rfl, hnm⟩) f1 (Or.inl rfl) bl13 (t := (.array .byte)) (by decide +kernel) rfl (g := (mkF m 54 #[.val (.ref a), .val (.ref b), .val (.int (Int32.ofNat o)), .val (.int (Int32.ofNat len)), .val .null, .val (.ref s.heap.size)] [.ref s.heap.size, .ref a])) rfl (rest := []) rfl (hb hbytes d54)
  have c16 : Steps p.tables e below (s₁.setTop (entryFrame m #[.ref a, .ref b, .int (Int32.ofNat o), .int (Int32.ofNat len), .null] 6)) (T15.setTop (mkF m 57 #[.val (.ref a), .val (.ref b), .val (.int (Int32.ofNat o)), .val (.int (Int32.ofNat len)), .val .null, .val (.ref s.heap.size)] [])) := c14.trans (st15 _ (Steps.refl _))
  have ap := apart (Or.inr ⟨_, (wk W (.laysFinal "java/lang/String" "java/lang/String" "value" "[B"))⟩) (Or.inr ⟨_, (wk W (.laysFinal "java/lang/String" "java/lang/String" "coder" "B"))⟩) f1 f2 (t₁ := .array .byte) (t₂ := .byte) (by decide +kernel) (by decide +kernel) (by decide)
  have al := X8.warmed.alike.symm.trans X15.warmed.alike
  have n7 : T11.heap[s.heap.size]? = some N := by rw [q11]; exact n1.1
  exact ⟨T15, none, _, _, _, X15, by simp, rfl, by omega, (fun _ => rfl), ⟨rfl, _, N, bl15, ((Same.refl D _).set _ (by simp)).set _ (by simp), sl15, (Cell.slots_setSlot_ne _ ap).trans sl13, n1.keep al (p15.other hne (p13.other hne n7)), n2, by rw [al.findClass]; exact n3, n4, n5, fun y c h1 h2 => p15.other h1 (p13.other h1 (by rw [q11]; exact n6 y c h2)), by rw [p15.2.2, p13.2.2, q11]; exact z8⟩, fun fs hl => c16.trans (X15.returnOut hexec hret (hb hbytes d57) hl)⟩
end New4
namespace New1
def yN : MethodName := ⟨"java/lang/String", "<init>", "([C)V"⟩
abbrev yB : ByteArray := jdk_42_method_3_code
theorem d0 : decode yB 0 = .ok (.aload_n 0, 1) := by decide +kernel
theorem d1 : decode yB 1 = .ok (.aload_n 1, 1) := by decide +kernel
theorem d2 : decode yB 2 = .ok (.iconst 0, 1) := by decide +kernel
theorem d3 : decode yB 3 = .ok (.aload_n 1, 1) := by decide +kernel
theorem d4 : decode yB 4 = .ok (.arraylength, 1) := by decide +kernel
theorem d5 : decode yB 5 = .ok (.aconst_null, 1) := by decide +kernel
theorem d6 : decode yB 6 = .ok (.invokespecial 27, 3) := by decide +kernel
theorem d9 : decode yB 9 = .ok (.return_, 1) := by decide +kernel
def site : List Cond := [New4.tab] ++ initW "java/lang/String" 27 New4.yN
def tab : Cond := tabOf yN yB 2 none site
def P (a : Addr) (D : Cell) (fV fC : Field) (b : Addr) (A : Cell) (z : Int32) (args : Array Value) (s : State) : Prop := args = #[.ref a, .ref b] ∧ Blank "java/lang/String" a D s ∧ Found "java/lang/String" "value" "[B" fV s ∧ Found "java/lang/String" "coder" "B" fC s ∧ Ch b A s ∧ StaticIs s "java/lang/String" "COMPACT_STRINGS" "Z" (.int z) ∧ ¬ z = 0 ∧ 0 < A.slots.size ∧ A.slots.size ≤ 536870912 ∧ ∀ i, i < A.slots.size → ¬ 255 < cv A i
def E (a : Addr) (D : Cell) (fV fC : Field) (A : Cell) (r : Option Value) (s u : State) : Prop := Got a D fV fC A 0 A.slots.size r s u
/-- new String(chars), not empty, no char above 255: a Latin-1 String of their low bytes -/
theorem law (l : Launch) (a : Addr) (D : Cell) (fV fC : Field) (b : Addr) (A : Cell) (z : Int32) : Law l yN 2 1 3 52 yB 2 none site (P a D fV fC b A z) (E a D fV fC A) [⟨a, fC.slot⟩, ⟨a, fV.slot⟩] 1 A.slots.size := by
  refine Law.of_walk (plainFor_of_name (by decide +kernel)) (by decide +kernel) (by decide +kernel) (by decide) (fun _ _ h => by rw [h.1]; rfl) (fun _ U U' hal hh h => ⟨h.1, h.2.1.mv hal hh, h.2.2.1.al hal, h.2.2.2.1.al hal, h.2.2.2.2.1.mv hal hh, h.2.2.2.2.2.1.there hal hh, h.2.2.2.2.2.2⟩) (fun r U U' V V' h1 hal h2 h => Got.mv r U U' V V' h1 hal h2 h) ?_
  intro p e s m args below meth c s₁ X0 hexec hbytes hml hret hlk hnm hown hh0 W hP
  obtain ⟨rfl, hB, f1, f2, hA, s1, hz, l0, l2, hp⟩ := hP
  have c1 : Steps p.tables e below (s₁.setTop (entryFrame m #[.ref a, .ref b] 2)) (s₁.setTop (mkF m 0 #[.val (.ref a), .val (.ref b)] [])) := entry rfl
  have c2 : Steps p.tables e below (s₁.setTop (entryFrame m #[.ref a, .ref b] 2)) (s₁.setTop (mkF m 6 #[.val (.ref a), .val (.ref b)] [.null, .int (Int32.ofNat A.slots.size), .int 0, .ref b, .ref a])) := c1.trans (by
    refine XS.aloadN X0.here hexec rfl (hb hbytes d0) rfl rfl ?_
    refine XS.aloadN X0.here hexec rfl (hb hbytes d1) rfl rfl ?_
    refine iconstV X0.here hexec rfl 0 (hb hbytes d2) (by decide) ?_
    refine XS.aloadN X0.here hexec rfl (hb hbytes d3) rfl rfl ?_
    refine X0.alen hexec (hA.1.mv X0.warmed.alike hh0) rfl rfl (hb hbytes d4) ?_
    refine XS.aconstNull X0.here hexec rfl (hb hbytes d5) ?_
    exact Steps.refl _)
  obtain ⟨v3, T3, X3, E3, g3⟩ := X0.callN hexec (New4.law l a D fV fC b A z 0 A.slots.size) rfl hown (wks W (initW "java/lang/String" 27 New4.yN)) (W New4.tab (by simp only [site, List.mem_cons, List.mem_append, true_or, or_true])) (W := 0) (Nat.le_of_ble_eq_true rfl) (Nat.le_of_ble_eq_true rfl) (Nat.le_refl _) (by show 0 + A.slots.size ≤ A.slots.size; omega) (g := (mkF m 6 #[.val (.ref a), .val (.ref b)] [.null, .int (Int32.ofNat A.slots.size), .int (Int32.ofNat 0), .ref b, .ref a])) rfl (by rw [hml]; rfl) c2 (argsL := [.ref b, .int (Int32.ofNat 0), .int (Int32.ofNat A.slots.size), .null]) (rest := []) rfl rfl (by show 2 * 0 + 0 ≤ _; decide) (hb hbytes d6) (⟨rfl, hB.mv X0.warmed.alike hh0, f1.al X0.warmed.alike, f2.al X0.warmed.alike, hA.mv X0.warmed.alike hh0, s1.there X0.warmed.alike hh0, hz, l0, by omega, l2, fun i hi => by rw [Nat.zero_add]; exact hp i hi⟩)
  have e0 := Got.mv _ s₁ s _ _ hh0.symm (Vm.Alike.refl _) rfl E3
  obtain rfl := e0.1
  have c4 : Steps p.tables e below (s₁.setTop (entryFrame m #[.ref a, .ref b] 2)) (T3.setTop (mkF m 9 #[.val (.ref a), .val (.ref b)] [])) := g3
  exact ⟨T3, none, _, _, _, X3, by simp, rfl, by omega, (fun _ => rfl), e0, fun fs hl => c4.trans (X3.returnOut hexec hret (hb hbytes d9) hl)⟩
theorem pays {l : Launch} {R : Room} {p : Program} {e : Env} {below : List Frame} {s : State} {sargs : Array Value} {len W : Nat} (a : Addr) (D : Cell) (fV fC : Field) (b : Addr) (A : Cell) (z : Int32) (htab : tab.before sargs s = true) (hfr : 4 ≤ R.frames) (hlo : W + 65 ≤ R.locals) :
    Back l R p e below s sargs yN len W (fun A₁ a₁ => A₁.cells + 1 ≤ R.cells ∧ A₁.slots + A.slots.size ≤ R.slots ∧ P a D fV fC b A z a₁ A₁.U) (fun A₁ _ v₁ B₁ => E a D fV fC A v₁ A₁.U B₁.U ∧ B₁.locs = A₁.locs ++ [⟨a, fC.slot⟩, ⟨a, fV.slot⟩] ∧ B₁.cells = A₁.cells + 1 ∧ B₁.slots = A₁.slots + A.slots.size) :=
  (law l a D fV fC b A z).pays htab hfr (by omega)
end New1
/-- the byte, read back as charAt reads it, is the char -/
theorem lo8_mask {x : Int32} (h0 : ¬ x < 0) (h1 : ¬ 255 < x) : lo8 x &&& 255 = x := by
  have t : ∀ k : Fin 256, lo8 (Int32.ofNat k.val) &&& 255 = Int32.ofNat k.val := by decide +kernel
  rw [Int32.lt_iff_toInt_lt] at h0 h1
  have e0 : (0 : Int32).toInt = 0 := rfl
  have e1 : (255 : Int32).toInt = 255 := rfl
  obtain ⟨k, hk⟩ : ∃ k : Nat, x.toInt = k := ⟨x.toInt.toNat, by omega⟩
  have hx : x = Int32.ofNat k := Int32.toInt_inj.mp (by rw [hk, Int32.toInt_ofNat_small (by omega)])
  rw [hx]
  exact t ⟨k, by omega⟩
end StrChars
namespace StrChars.Road
open Jvm Sem ClassFile Op Lib Jvm.Stand Jvm.Free Jvm.Free.XT
open Jvm.Lib.Cold (StaticIs)
abbrev ST : String := "java/lang/String"
/-- every table word that New1's law asks, flat -/
abbrev words : List Jvm.Cond := [.code New1.yN New1.yB 2 none, .initialized ST, .methodLink ST 27 New4.yN, .instanceMethod New4.yN,
  .code New4.yN New4.yB 6 none, .fieldLink ST 38 ST "COMPACT_STRINGS" "Z", .laysFinal ST ST "value" "[B", .fieldLink ST 9 ST "value" "[B", .laysFinal ST ST "coder" "B", .fieldLink ST 15 ST "coder" "B",
  .methodLink ST 1 Lib.objectInit, .instanceMethod Lib.objectInit, .code Lib.objectInit ⟨#[0xb1]⟩ 1 none, .methodLink ST 177 Cmp3.yN, .static Cmp3.yN, .methodLink ST 47 CodL.yN, .static CodL.yN,
  .code Cmp3.yN Cmp3.yB 6 (some (.array .byte)), .initialized U16, .arrayClass .byte, .methodLink U16 115 Cmp5.yN, .static Cmp5.yN, .code Cmp5.yN Cmp5.yB 7 (some .int), .code CodL.yN CodL.yB 2 (some .byte)]
theorem tab_of {a : Array Value} {s : State} (h : ∀ w ∈ words, w.before a s = true) : New1.tab.before a s = true := by
  have h5 : Cmp5.tab.before a s = true := unparts (wk h (.code Cmp5.yN Cmp5.yB 7 (some .int))) (wks h (.initialized Cmp5.yN.cls :: Cmp5.site))
  have hc : CodL.tab.before a s = true := unparts (wk h (.code CodL.yN CodL.yB 2 (some .byte))) (wks h (.initialized CodL.yN.cls :: CodL.site))
  have q5 : ∀ w ∈ Cmp5.tab :: words, w.before a s = true := fun w hw => (List.mem_cons.mp hw).elim (fun e => e ▸ h5) (h w)
  have h3 : Cmp3.tab.before a s = true := unparts (wk q5 (.code Cmp3.yN Cmp3.yB 6 (some (.array .byte)))) (wks q5 (.initialized Cmp3.yN.cls :: Cmp3.site))
  have q3 : ∀ w ∈ Cmp3.tab :: CodL.tab :: words, w.before a s = true := fun w hw => (List.mem_cons.mp hw).elim (fun e => e ▸ h3) fun hw => (List.mem_cons.mp hw).elim (fun e => e ▸ hc) (h w)
  have h4 : New4.tab.before a s = true := unparts (wk q3 (.code New4.yN New4.yB 6 none)) (wks q3 (.initialized New4.yN.cls :: New4.site))
  have q4 : ∀ w ∈ New4.tab :: words, w.before a s = true := fun w hw => (List.mem_cons.mp hw).elim (fun e => e ▸ h4) (h w)
  exact unparts (wk q4 (.code New1.yN New1.yB 2 none)) (wks q4 (.initialized New1.yN.cls :: New1.site))
/-- the words ride from the start Z to the walk's own state -/
theorem moved {Z s : State} {a0 args : Array Value} (hZ : Z.Warmed39 s.vm) (hw : ∀ d ∈ words, d.before a0 Z = true) : ∀ d ∈ words, d.before args s = true := fun d hd => by
  have q := hw d hd
  have t : ∀ d ∈ words, d = .arrayClass .byte ∨ (d.onTables && d.keepsFace) = true := by decide +kernel
  rcases t d hd with rfl | t
  · exact RoadKit.mvA hZ q
  · exact RoadKit.mv hZ q t
/-- WHAT COMES BACK, over the tables of the start Z: h the heap at the call, h' behind it -/
def Q (Z : State) (x : Addr) (A : Cell) (h : Heap) (v : Option Value) (h' : Heap) (L : List Loc) : Prop := v = none ∧ (∀ y ∈ L, y.base = x) ∧ RoadKit.Keep h h' [x] ∧ h'.size = h.size + 1 ∧ RoadKit.Exa Z h' x ST ∧ RoadKit.Fld Z h' x ST "value" "[B" (.ref h.size) ∧ RoadKit.Fld Z h' x ST "coder" "B" (.int 0) ∧
  (∃ V : Cell, RoadKit.Arr Z h' h.size V .byte ∧ V.vm = .none ∧ Z.vm.findClass "[B" = some V.cls ∧ V.slots.size = A.slots.size ∧ ∀ j, j < A.slots.size → V.slots[j]? = some (.int (lo8 (cv A j)))) ∧
  ∀ (O n d : String) (w : Value), RoadKit.Fld Z h x O n d w → RoadKit.slotOf Z O n d ≠ RoadKit.slotOf Z ST "value" "[B" → RoadKit.slotOf Z O n d ≠ RoadKit.slotOf Z ST "coder" "B" → RoadKit.Fld Z h' x O n d w
/-- **new String(chars) AT A CALL, IN THE ROAD'S FORM**: for specialBack behind newO: x the fresh String, b the char[] with the cell A -/
theorem back {p : Program} {l : Launch} {e : Env} {R : Room} {s : State} {args : Array Value} {below : List Frame} {len W : Nat} {Z : State} {a0 : Array Value} {h : Heap} (hZ : Z.Warmed39 s.vm) (hw : ∀ d ∈ words, d.before a0 Z = true) {kI : Nat} (wi : (Jvm.Cond.instantiable ST kI).before a0 Z = true)
    {x b : Addr} {A : Cell} {z : Int32} {v0 c0 : Value} (E : RoadKit.Exa Z h x ST) (V : RoadKit.Fld Z h x ST "value" "[B" v0) (C : RoadKit.Fld Z h x ST "coder" "B" c0) (K : RoadKit.Arr Z h b A .char) (hty : Typed .char A) (S : RoadKit.Sta Z h ST "COMPACT_STRINGS" "Z" (.int z)) (hz : ¬ z = 0)
    (l0 : 0 < A.slots.size) (l2 : A.slots.size ≤ 536870912) (hp : ∀ i, i < A.slots.size → ¬ 255 < cv A i) (hfr : 4 ≤ R.frames) (hlo : W + 65 ≤ R.locals) :
    Back l R p e below s args New1.yN len W (fun P a => a = #[.ref x, .ref b] ∧ P.U.heap = h ∧ P.cells + 1 ≤ R.cells ∧ P.slots + A.slots.size ≤ R.slots)
      (fun P _ v B => ∃ L, Q Z x A h v B.U.heap L ∧ B.locs = P.locs ++ L ∧ B.cells = P.cells + 1 ∧ B.slots = P.slots + A.slots.size) := by
  intro m meth c P g ig mk a X hg hsize hdg hW hn hp'
  obtain ⟨rfl, rfl, r1, r2⟩ := hp'
  have al : Z.vm.Alike P.U.vm := hZ.alike.trans X.warmed.alike
  obtain ⟨D, cfV, kV, iV, fV, hD, gV, stV, knV, obV, asV, slV⟩ := id V
  obtain ⟨D', cfC, kC, iC, fC, hD', gC, stC, -, -, asC, slC⟩ := id C
  cases hD.symm.trans hD'
  obtain ⟨D2, kD, e1, e2, e3, e4, e5⟩ := id E
  cases hD.symm.trans e1
  obtain ⟨c2, k2, i1, i2, i3, -⟩ := Cond.instantiable_spec wi
  cases e2.symm.trans i1
  cases e3.symm.trans i2
  obtain ⟨kU, u1, u2⟩ := al.2.2 _ _ e3
  have hB : Blank ST x D P.U := ⟨hD, ⟨knV, fun q hq => by rw [hq] at obV; cases obV⟩, by rw [al.findClass]; exact e2, kU, u1, by rw [u2]; exact i3, by rw [u2]; exact e5 i3⟩
  have F1 : Found ST "value" "[B" fV P.U := ⟨SBG.found_only al ⟨cfV, kV, iV, gV⟩, stV⟩
  have F2 : Found ST "coder" "B" fC P.U := ⟨SBG.found_only al ⟨cfC, kC, iC, gC⟩, stC⟩
  have hA : Ch b A P.U := ⟨⟨K.1, State.isArrayOf_alike al K.2.1, K.2.2, by omega⟩, hty⟩
  have hS : StaticIs P.U ST "COMPACT_STRINGS" "Z" (.int z) := by
    obtain ⟨cfS, iS, kS, fS, st, cS, t1, t2, t3, t4, t5, t6, t7⟩ := S
    exact StaticIs.there (s := { Z with heap := P.U.heap }) ⟨cfS, iS, kS, fS, st, cS, t1, t2, t3, t4, t5, (fun q => by rw [q] at t6; cases t6), t7⟩ al rfl
  obtain ⟨v, B, X', ⟨⟨hv, E', V', q1, q2, q3, q4, q5, q6, q7, q8, q9, q10, q11⟩, hl, hc, hs⟩, st⟩ := New1.pays x D fV fC b A z (tab_of (moved hZ hw)) hfr hlo m meth c P g ig mk _ X hg hsize hdg hW hn ⟨r1, r2, rfl, hB, F1, F2, hA, hS, hz, l0, l2, hp⟩
  have al' : Z.vm.Alike B.U.vm := hZ.alike.trans X'.warmed.alike
  have hsz : E'.slots.size = D.slots.size := by
    obtain ⟨-, -, -, kB, w1, w2, w3⟩ := q1
    obtain ⟨kB', y1, y2⟩ := al'.2.2 _ _ e3
    rw [q2.2.1] at w1
    cases w1.symm.trans y1
    rw [w3, e5 i3, y2]
  refine ⟨v, B, X', ⟨_, ⟨hv, ?_, ⟨by omega, fun y cy hy hn' => q10 y cy (by simpa using hn') hy, fun y cy hy => ?_⟩, q11, ⟨E', _, q1.1, by rw [q2.2.1]; exact e2, by rw [q2.2.1]; exact e3, by rw [q2.1]; exact obV, fun _ => by rw [hsz]; exact e5 i3⟩,
    ⟨E', cfV, kV, iV, fV, q1.1, gV, stV, by rw [q2.1]; exact knV, by rw [q2.1]; exact obV, by rw [q2.2.1]; exact asV, q3⟩, ⟨E', cfC, kC, iC, fC, q1.1, gC, stC, by rw [q2.1]; exact knV, by rw [q2.1]; exact obV, by rw [q2.2.1]; exact asC, q4⟩,
    ⟨V', ⟨q5.1, State.isArrayOf_alike al'.symm q5.2.1, q5.2.2.1⟩, q6, by rw [← al'.findClass]; exact q7, q8, fun j hj => by have := q9 j hj; rwa [Nat.zero_add] at this⟩, fun O n d w F n1 n2 => ?_⟩, hl, hc, hs⟩, st⟩
  · intro y hy
    simp only [List.mem_cons, List.not_mem_nil, or_false] at hy
    rcases hy with rfl | rfl <;> rfl
  · by_cases q : y = x
    · subst q
      cases hD.symm.trans hy
      exact ⟨E', q1.1, q2.2.1, q2.1, hsz⟩
    · exact ⟨cy, q10 y cy q hy, rfl, rfl, rfl⟩
  · obtain ⟨D3, cf, k, i, f, g1, g2, g3, g4, g5, g6, g7⟩ := F
    cases hD.symm.trans g1
    simp only [RoadKit.slotOf, g2, gV, gC, Option.map_some, Option.getD_some] at n1 n2
    exact ⟨E', cf, k, i, f, q1.1, g2, g3, by rw [q2.1]; exact g4, by rw [q2.1]; exact g5, by rw [q2.2.1]; exact g6, by rw [q2.2.2 f.slot (by simp [n1, n2])]; exact g7⟩
end StrChars.Road
namespace StrChars.Road
open Jvm Sem ClassFile Op Lib Jvm.Stand Jvm.Free Jvm.Free.XT
/-- WHAT COMES BACK, the byte[] as a list of values -/
def QA (Z : State) (x : Addr) (zn : Int32) (cs : List Int32) (h : Heap) (v : Option Value) (h' : Heap) (L : List Loc) : Prop := v = none ∧ (∀ y ∈ L, y.base = x) ∧ RoadKit.Keep h h' [x] ∧ h'.size = h.size + 1 ∧ RoadKit.Exa Z h' x ST ∧ RoadKit.Fld Z h' x ST "value" "[B" (.ref h.size) ∧ RoadKit.Fld Z h' x ST "coder" "B" (.int 0) ∧
  (∃ kb, Z.vm.findClass "[B" = some kb ∧ RoadKit.Arv Z h' h.size kb .byte zn (cs.map fun c => .int (lo8 c)) (.int 0)) ∧
  ∀ (O n d : String) (w : Value), RoadKit.Fld Z h x O n d w → RoadKit.slotOf Z O n d ≠ RoadKit.slotOf Z ST "value" "[B" → RoadKit.slotOf Z O n d ≠ RoadKit.slotOf Z ST "coder" "B" → RoadKit.Fld Z h' x O n d w
/-- **new String(chars) AT A CALL, THE ARRAYS AS LISTS**: the char[] at b holds cs, not empty, no char above 255 -/
theorem backArv {p : Program} {l : Launch} {e : Env} {R : Room} {s : State} {args : Array Value} {below : List Frame} {len W : Nat} {Z : State} {a0 : Array Value} {h : Heap} (hZ : Z.Warmed39 s.vm) (hw : ∀ d ∈ words, d.before a0 Z = true) {kI : Nat} (wi : (Jvm.Cond.instantiable ST kI).before a0 Z = true)
    {x b : Addr} {k : ClassId} {zn z : Int32} {cs : List Int32} {dv v0 c0 : Value} (E : RoadKit.Exa Z h x ST) (V : RoadKit.Fld Z h x ST "value" "[B" v0) (C : RoadKit.Fld Z h x ST "coder" "B" c0) (K : RoadKit.Arv Z h b k .char zn (cs.map Value.int) dv) (S : RoadKit.Sta Z h ST "COMPACT_STRINGS" "Z" (.int z)) (hz : ¬ z = 0)
    (hlen : zn.toNatClampNeg = cs.length) (h0 : 0 < cs.length) (hbig : cs.length ≤ 536870912) (hall : ∀ c ∈ cs, ¬ 255 < c) (hfr : 4 ≤ R.frames) (hlo : W + 65 ≤ R.locals) :
    Back l R p e below s args New1.yN len W (fun P a => a = #[.ref x, .ref b] ∧ P.U.heap = h ∧ P.cells + 1 ≤ R.cells ∧ P.slots + cs.length ≤ R.slots)
      (fun P _ v B => ∃ L, QA Z x zn cs h v B.U.heap L ∧ B.locs = P.locs ++ L ∧ B.cells = P.cells + 1 ∧ B.slots = P.slots + cs.length) := by
  obtain ⟨A, K1, K2, K3, K4, K5, K6⟩ := K
  have e : A.slots.size = cs.length := K3.trans hlen
  have hat : ∀ (i : Nat) (hi : i < cs.length), A.slots[i]? = some (.int cs[i]) := fun i hi => by rw [K5 i (by omega)]; simp [List.getD_eq_getElem?_getD, hi]
  have hcv : ∀ (i : Nat) (hi : i < cs.length), cv A i = cs[i] := fun i hi => by unfold cv; rw [hat i hi]
  have hty : Typed .char A := fun i v hv => by
    have hi : i < A.slots.size := (Array.getElem?_eq_some_iff.mp hv).1
    have q := K5 i hi
    rw [hv] at q
    rw [Option.some.inj q]
    exact K6 i hi
  refine Back.mono (back hZ hw wi E V C K1 hty S hz (by omega) (by omega) (fun i hi => by rw [hcv i (by omega)]; exact hall _ (List.getElem_mem _)) hfr hlo) (fun P a hp => ⟨hp.1, hp.2.1, hp.2.2.1, by rw [e]; exact hp.2.2.2⟩) (fun P a v B hp hq => ?_)
  obtain ⟨L, ⟨q1, q2, q3, q4, q5, q6, q7, ⟨V', v1, v2, v3, v4, v5⟩, q9⟩, hl, hc, hs⟩ := hq
  refine ⟨L, ⟨q1, q2, q3, q4, q5, q6, q7, ⟨V'.cls, v3, V', v1, rfl, by rw [v4, e, hlen], K4, fun i hi => ?_, fun i hi => ?_⟩, q9⟩, hl, hc, by rw [hs, e]⟩
  · have hi' : i < cs.length := by omega
    rw [v5 i (by omega), hcv i hi']; simp [List.getD_eq_getElem?_getD, hi']
  · have hi' : i < cs.length := by omega
    simp only [List.getD_eq_getElem?_getD, List.getElem?_map, List.getElem?_eq_getElem hi', Option.map_some, Option.getD_some]
    exact fits_lo8 _
end StrChars.Road
namespace StrChars.Road
open Jvm Sem ClassFile Op Lib Jvm.Stand Jvm.Free Jvm.Free.XT
/-- WHAT COMES BACK, in the writer's own shape -/
def QV (Z : State) (x : Addr) (N : Int32) (bs : List Int32) (h : Heap) (n0 : Nat) (v : Option Value) (h' : Heap) (L : List Loc) : Prop := v = none ∧ RoadKit.Fr n0 L ∧ RoadKit.Keep h h' [x] ∧ RoadKit.Exa Z h' x ST ∧ RoadKit.Fld Z h' x ST "coder" "B" (.int 0) ∧
  ∃ (t : Addr) (kb : ClassId), n0 ≤ t ∧ h.size ≤ t ∧ ¬ t = x ∧ RoadKit.Fld Z h' x ST "value" "[B" (.ref t) ∧ RoadKit.Arv Z h' t kb .byte N (bs.map Value.int) (.int 0)
/-- **new String(chars) AT A CALL, FOR THE WRITER**: a char[] of n known ints, each 0 to 255 -/
theorem backV {p : Program} {l : Launch} {e : Env} {R : Room} {s : State} {args : Array Value} {below : List Frame} {len W : Nat} {Z : State} {a0 : Array Value} {h : Heap} (hZ : Z.Warmed39 s.vm) (hw : ∀ d ∈ words, d.before a0 Z = true) {kI : Nat} (wi : (Jvm.Cond.instantiable ST kI).before a0 Z = true)
    {x b : Addr} {kC : ClassId} {cs bs : List Int32} {d v0 c0 : Value} {z N : Int32} {n n0 : Nat} (hx0 : n0 ≤ x) (hh0 : n0 ≤ h.size) (E : RoadKit.Exa Z h x ST) (V : RoadKit.Fld Z h x ST "value" "[B" v0) (C : RoadKit.Fld Z h x ST "coder" "B" c0) (K : RoadKit.Arv Z h b kC .char N (cs.map Value.int) d) (S : RoadKit.Sta Z h ST "COMPACT_STRINGS" "Z" (.int z)) (hz : ¬ z = 0)
    (hn : cs.length = n) (hN : N = Int32.ofNat n) (l0 : 0 < n) (l2 : n ≤ 4000) (hp : ∀ c ∈ cs, ¬ c < 0 ∧ ¬ (255 : Int32) < c) (hb : bs = cs.map (fun c => c.toInt8.toInt32)) (hfr : 4 ≤ R.frames) (hlo : W + 65 ≤ R.locals) :
    Back l R p e below s args (⟨"java/lang/String", "<init>", "([C)V"⟩ : MethodName) len W (fun P a => a = #[.ref x, .ref b] ∧ P.U.heap = h ∧ P.cells + 1 ≤ R.cells ∧ P.slots + n ≤ R.slots)
      (fun P _ v B => ∃ L, QV Z x N bs h n0 v B.U.heap L ∧ B.locs = P.locs ++ L ∧ B.cells = P.cells + 1 ∧ B.slots = P.slots + n) := by
  subst hn hN hb
  refine Back.mono (backArv hZ hw wi E V C K S hz (n32 (by omega)) l0 (by omega) (fun c hc => (hp c hc).2) hfr hlo) (fun P a hp => hp) (fun P a v B hp hq => ?_)
  obtain ⟨L, ⟨q1, q2, q3, q4, q5, q6, q7, ⟨kb, v1, v2⟩, q9⟩, hl, hc, hs⟩ := hq
  exact ⟨L, ⟨q1, fun y hy => by rw [q2 y hy]; exact hx0, q3, q5, q7, h.size, kb, hh0, Nat.le_refl _, Nat.ne_of_gt E.lt, q6, by rw [List.map_map]; exact v2⟩, hl, hc, hs⟩
end StrChars.Road
namespace StrChars
open Jvm Sem ClassFile Op Lib Jvm.Stand Jvm.Free.XT Jvm.Free.ALB Jvm.Free.JM Jvm.Free
open Jvm.Lib.Cold (StaticIs)
def hi8 (x : Int32) : Int32 := lo8 (x >>> ((8 : Int32) &&& 31))
/-- what StringUTF16.getChar makes of two bytes -/
def pairCh (u v : Int32) : Int32 := (((u &&& 255) <<< ((0 : Int32) &&& 31)) ||| ((v &&& 255) <<< ((8 : Int32) &&& 31))).toUInt32.toUInt16.toUInt32.toInt32
theorem lo8_and (x : Int32) : (lo8 x &&& 255).toBitVec.toNat = x.toBitVec.toNat % 256 := by
  have h : (lo8 x).toBitVec = (x.toBitVec.signExtend 8).signExtend 32 := by rw [lo8, Int8.toBitVec_toInt32, Int32.toBitVec_toInt8]
  rw [Int32.toBitVec_and, BitVec.toNat_and, h]
  have e : ((x.toBitVec.signExtend 8).signExtend 32).toNat % 256 = x.toBitVec.toNat % 256 := by
    rw [BitVec.toNat_signExtend]
    have hlt := x.toBitVec.isLt
    simp only [BitVec.toNat_setWidth, BitVec.toNat_signExtend]
    split <;> split <;> omega
  rw [← e]
  exact Nat.and_two_pow_sub_one_eq_mod _ 8
theorem pair_says {c : Int32} (h0 : ¬ c < 0) (h1 : ¬ 65535 < c) : pairCh (lo8 c) (hi8 c) = c := by
  rw [Int32.lt_iff_toInt_lt] at h0 h1
  have e0 : (0 : Int32).toInt = 0 := rfl
  have e1 : (65535 : Int32).toInt = 65535 := rfl
  have hc : c.toInt = c.toBitVec.toNat := by
    have := c.toBitVec.isLt
    have e : c.toInt = c.toBitVec.toInt := rfl
    rw [e] at h0 h1
    rw [e]
    rw [BitVec.toInt_eq_toNat_cond] at h0 h1 ⊢
    split at h0 <;> split <;> omega
  have hn : c.toBitVec.toNat < 65536 := by omega
  have a1 := lo8_and c
  have a2 : (hi8 c &&& 255).toBitVec.toNat = c.toBitVec.toNat / 256 := by
    rw [hi8, lo8_and]
    have e : ((8 : Int32) &&& 31) = 8 := by decide
    rw [e, Int32.toBitVec_shiftRight]
    have e2 : ((8 : Int32).toBitVec.smod 32) = 8#32 := by decide
    rw [e2, BitVec.sshiftRight_eq', BitVec.toNat_sshiftRight_of_msb_false (by rw [BitVec.msb_eq_false_iff_two_mul_lt]; omega)]
    show c.toBitVec.toNat >>> 8 % 256 = _
    rw [Nat.shiftRight_eq_div_pow]
    omega
  unfold pairCh
  apply Int32.toBitVec_inj.mp
  apply BitVec.eq_of_toNat_eq
  have f0 : ((0 : Int32) &&& 31) = 0 := by decide
  have f8 : ((8 : Int32) &&& 31) = 8 := by decide
  rw [f0, f8]
  have g : (((lo8 c &&& 255) <<< (0 : Int32)) ||| ((hi8 c &&& 255) <<< (8 : Int32))).toBitVec.toNat = c.toBitVec.toNat := by
    rw [Int32.toBitVec_or, Int32.toBitVec_shiftLeft, Int32.toBitVec_shiftLeft]
    have s0 : ((0 : Int32).toBitVec.smod 32) = 0#32 := by decide
    have s8 : ((8 : Int32).toBitVec.smod 32) = 8#32 := by decide
    rw [s0, s8, BitVec.toNat_or]
    simp only [BitVec.shiftLeft_eq', BitVec.toNat_shiftLeft, a1, a2]
    show (c.toBitVec.toNat % 256) <<< 0 % 2 ^ 32 ||| (c.toBitVec.toNat / 256) <<< 8 % 2 ^ 32 = _
    rw [Nat.shiftLeft_zero, Nat.mod_eq_of_lt (show c.toBitVec.toNat % 256 < 2 ^ 32 by omega), Nat.mod_eq_of_lt (show (c.toBitVec.toNat / 256) <<< 8 < 2 ^ 32 by rw [Nat.shiftLeft_eq]; omega), Nat.or_comm, ← Nat.shiftLeft_add_eq_or_of_lt (by omega), Nat.shiftLeft_eq]
    omega
  show BitVec.toNat (((((lo8 c &&& 255) <<< (0 : Int32)) ||| ((hi8 c &&& 255) <<< (8 : Int32))).toBitVec.setWidth 16).setWidth 32) = _
  rw [BitVec.toNat_setWidth, BitVec.toNat_setWidth, g]
  omega
end StrChars
namespace StrChars
open Jvm Sem ClassFile Op Lib Jvm.Stand Jvm.Free.XT Jvm.Free.ALB Jvm.Free.JM Jvm.Free
open Jvm.Lib.Cold (StaticIs)
/-- the array's cell V codes the n chars f 0 .. f (n - 1) by the coder cd, as the JDK does: coder 1 just where some char is above 255 -/
def Cod (cd : Int32) (n : Nat) (f : Nat → Int32) (V : Cell) : Prop := (cd = 0 ∧ V.slots.size = n ∧ ∀ j, j < n → V.slots[j]? = some (.int (lo8 (f j))) ∧ ¬ 255 < f j) ∨ (cd = 1 ∧ V.slots.size = 2 * n ∧ (∀ j, j < n → V.slots[2 * j]? = some (.int (lo8 (f j))) ∧ V.slots[2 * j + 1]? = some (.int (hi8 (f j)))) ∧ ∃ j, j < n ∧ 255 < f j)
/-- **x is a String of the n chars f 0 .. f (n - 1)**, Latin-1 or UTF-16; its array at t has the cell V -/
def Txt (x t : Addr) (V : Cell) (cd : Int32) (n : Nat) (f : Nat → Int32) (U : State) : Prop := Exact "java/lang/String" x U ∧ Has x "java/lang/String" "value" "[B" (.ref t) U ∧ Has x "java/lang/String" "coder" "B" (.int cd) U ∧ XT.Arr .byte t V U ∧ Cod cd n f V ∧ ∀ j, j < n → ¬ f j < 0 ∧ ¬ 65535 < f j
theorem Txt.mv {x t : Addr} {V : Cell} {cd : Int32} {n : Nat} {f : Nat → Int32} {U U' : State} (h : Txt x t V cd n f U) (hal : U.vm.Alike U'.vm) (hh : U'.heap = U.heap) : Txt x t V cd n f U' := ⟨h.1.mv hal hh, h.2.1.mv hal hh, h.2.2.1.mv hal hh, h.2.2.2.1.mv hal hh, h.2.2.2.2⟩
end StrChars
namespace StrChars.Road
open Jvm Sem ClassFile Op Lib Jvm.Stand Jvm.Free Jvm.Free.XT
open Jvm.Lib.Cold (StaticIs)
theorem consq {a : Array Value} {s : State} {c : Jvm.Cond} {L : List Jvm.Cond} (h0 : c.before a s = true) (h : ∀ w ∈ L, w.before a s = true) : ∀ w ∈ c :: L, w.before a s = true := fun w hw => (List.mem_cons.mp hw).elim (fun e => e ▸ h0) (h w)
/-- the bytes of the chars cs, low before high -/
def wideBytes : List Int32 → List Value
  | [] => []
  | c :: cs => .int (lo8 c) :: .int (hi8 c) :: wideBytes cs
theorem wide_lo (d : Value) : ∀ (cs : List Int32) (j : Nat), j < cs.length → (wideBytes cs).getD (2 * j) d = .int (lo8 (cs.getD j 0))
  | [], j, h => absurd h (Nat.not_lt_zero j)
  | c :: cs, 0, _ => rfl
  | c :: cs, j + 1, h => by
    have q := wide_lo d cs j (by simpa using h)
    rw [show 2 * (j + 1) = 2 * j + 1 + 1 from by omega]
    simpa [wideBytes] using q
theorem wide_hi (d : Value) : ∀ (cs : List Int32) (j : Nat), j < cs.length → (wideBytes cs).getD (2 * j + 1) d = .int (hi8 (cs.getD j 0))
  | [], j, h => absurd h (Nat.not_lt_zero j)
  | c :: cs, 0, _ => rfl
  | c :: cs, j + 1, h => by
    have q := wide_hi d cs j (by simpa using h)
    rw [show 2 * (j + 1) + 1 = 2 * j + 1 + 1 + 1 from by omega]
    simpa [wideBytes] using q
theorem low_at (d : Value) (cs : List Int32) (j : Nat) (h : j < cs.length) : (cs.map fun c => Value.int (lo8 c)).getD j d = .int (lo8 (cs.getD j 0)) := by
  simp [List.getD_eq_getElem?_getD, h]
/-- an array of N2 bytes vs codes the chars cs by the coder cd -/
def CodA (cs : List Int32) (cd N2 : Int32) (vs : List Value) : Prop := (cd = 0 ∧ N2 = Int32.ofNat cs.length ∧ vs = (cs.map fun c => Value.int (lo8 c)) ∧ ∀ c ∈ cs, ¬ 255 < c) ∨ (cd = 1 ∧ N2 = Int32.ofNat (2 * cs.length) ∧ vs = wideBytes cs ∧ ∃ c ∈ cs, 255 < c)
theorem CodA.cod {cs : List Int32} {cd N2 : Int32} {vs : List Value} {V : Cell} (h : CodA cs cd N2 vs) (hn : 2 * cs.length < 2 ^ 31) (hs : V.slots.size = N2.toNatClampNeg) (hv : RoadKit.Has V vs (.int 0)) : Cod cd cs.length (fun j => cs.getD j 0) V := by
  rcases h with ⟨rfl, rfl, rfl, h⟩ | ⟨rfl, rfl, rfl, c, hc, hw⟩
  · rw [n32 (by omega)] at hs
    exact Or.inl ⟨rfl, hs, fun j hj => ⟨by rw [hv j (by omega), low_at _ _ _ hj], by
      have e : cs.getD j 0 = cs[j] := by simp [List.getD_eq_getElem?_getD, hj]
      show ¬ 255 < cs.getD j 0
      rw [e]; exact h _ (List.getElem_mem _)⟩⟩
  · rw [n32 (by omega)] at hs
    obtain ⟨j, hj, rfl⟩ := List.getElem_of_mem hc
    exact Or.inr ⟨rfl, hs, fun j hj => ⟨by rw [hv _ (by omega), wide_lo _ _ _ hj], by rw [hv _ (by omega), wide_hi _ _ _ hj]⟩, j, hj, by
      have e : cs.getD j 0 = cs[j] := by simp [List.getD_eq_getElem?_getD, hj]
      show 255 < cs.getD j 0
      rw [e]; exact hw⟩
/-- an object of exactly java/lang/String, its two fields found: as the laws ask it -/
theorem strObj {Z U : State} {a0 : Array Value} {kI : Nat} (wi : (Jvm.Cond.instantiable ST kI).before a0 Z = true) (al : Z.vm.Alike U.vm) {x : Addr} {v0 c0 : Value} (E : RoadKit.Exa Z U.heap x ST) (V : RoadKit.Fld Z U.heap x ST "value" "[B" v0) (C : RoadKit.Fld Z U.heap x ST "coder" "B" c0) :
    ∃ (D : Cell) (fV fC : Field), Blank ST x D U ∧ Found ST "value" "[B" fV U ∧ Found ST "coder" "B" fC U ∧ D.slots[fV.slot]? = some v0 ∧ D.slots[fC.slot]? = some c0 ∧ RoadKit.slotOf Z ST "value" "[B" = fV.slot ∧ RoadKit.slotOf Z ST "coder" "B" = fC.slot := by
  obtain ⟨D, cfV, kV, iV, fV, hD, gV, stV, knV, obV, asV, slV⟩ := V
  obtain ⟨D', cfC, kC, iC, fC, hD', gC, stC, -, -, asC, slC⟩ := C
  cases hD.symm.trans hD'
  obtain ⟨D2, kD, e1, e2, e3, e4, e5⟩ := E
  cases hD.symm.trans e1
  obtain ⟨c2, k2, i1, i2, i3, -⟩ := Cond.instantiable_spec wi
  cases e2.symm.trans i1
  cases e3.symm.trans i2
  obtain ⟨kU, u1, u2⟩ := al.2.2 _ _ e3
  exact ⟨D, fV, fC, ⟨hD, ⟨knV, fun q hq => by rw [hq] at obV; cases obV⟩, by rw [al.findClass]; exact e2, kU, u1, by rw [u2]; exact i3, by rw [u2]; exact e5 i3⟩, ⟨SBG.found_only al ⟨cfV, kV, iV, gV⟩, stV⟩, ⟨SBG.found_only al ⟨cfC, kC, iC, gC⟩, stC⟩, slV, slC, by simp [RoadKit.slotOf, gV], by simp [RoadKit.slotOf, gC]⟩
theorem sta_is {Z U : State} (al : Z.vm.Alike U.vm) {C n d : String} {v : Value} (S : RoadKit.Sta Z U.heap C n d v) : StaticIs U C n d v := by
  obtain ⟨cfS, iS, kS, fS, st, cS, t1, t2, t3, t4, t5, t6, t7⟩ := S
  exact StaticIs.there (s := { Z with heap := U.heap }) ⟨cfS, iS, kS, fS, st, cS, t1, t2, t3, t4, t5, (fun q => by rw [q] at t6; cases t6), t7⟩ al rfl
end StrChars.Road
namespace StrChars
open Jvm Sem ClassFile Op Lib Jvm.Stand Jvm.Free.XT Jvm.Free.ALB Jvm.Free.JM Jvm.Free
open Jvm.Lib.Cold (StaticIs)
/-- what place i of a byte[]'s cell holds -/
def yv (A : Cell) (i : Nat) : Int32 := match A.slots[i]? with | some (.int x) => x | _ => 0
theorem yv_get {a : Addr} {A : Cell} {U : State} (h : XT.Arr .byte a A U) (ht : Typed .byte A) {i : Nat} (hi : i < A.slots.size) : A.slots[i]? = some (.int (yv A i)) := by
  have e := Array.getElem?_eq_getElem hi
  have f := ht i _ e
  unfold yv; rw [e]
  generalize A.slots[i] = v at f
  cases v <;> simp [fits] at f ⊢
/-- the two arrays are equal, place for place -/
def EqC (A B : Cell) : Prop := A.slots.size = B.slots.size ∧ ∀ i, i < A.slots.size → yv A i = yv B i
/-- a boolean that says whether p -/
def Says01 (q : Prop) (r : Option Value) (s u : State) : Prop := ∃ v : Int32, r = some (.int v) ∧ u.heap = s.heap ∧ ((v = 1 ∧ q) ∨ (v = 0 ∧ ¬ q))
theorem Says01.mv {q : Prop} : ∀ r (U U' V V' : State), U'.heap = U.heap → V.vm.Alike V'.vm → V'.heap = V.heap → Says01 q r U V → Says01 q r U' V' :=
  fun r U U' V V' h1 _ h2 ⟨v, a, b, c⟩ => ⟨v, a, by rw [h1, h2]; exact b, c⟩
namespace LEq
def yN : MethodName := ⟨"java/lang/StringLatin1", "equals", "([B[B)Z"⟩
abbrev yB : ByteArray := jdk_43_method_13_code
theorem d0 : decode yB 0 = .ok (.aload_n 0, 1) := by decide +kernel
theorem d1 : decode yB 1 = .ok (.arraylength, 1) := by decide +kernel
theorem d2 : decode yB 2 = .ok (.aload_n 1, 1) := by decide +kernel
theorem d3 : decode yB 3 = .ok (.arraylength, 1) := by decide +kernel
theorem d4 : decode yB 4 = .ok (.if_icmp (.ne) 30, 3) := by decide +kernel
theorem d7 : decode yB 7 = .ok (.iconst 0, 1) := by decide +kernel
theorem d8 : decode yB 8 = .ok (.istore_n 2, 1) := by decide +kernel
theorem d9 : decode yB 9 = .ok (.iload_n 2, 1) := by decide +kernel
theorem d10 : decode yB 10 = .ok (.aload_n 0, 1) := by decide +kernel
theorem d11 : decode yB 11 = .ok (.arraylength, 1) := by decide +kernel
theorem d12 : decode yB 12 = .ok (.if_icmp (.ge) 20, 3) := by decide +kernel
theorem d15 : decode yB 15 = .ok (.aload_n 0, 1) := by decide +kernel
theorem d16 : decode yB 16 = .ok (.iload_n 2, 1) := by decide +kernel
theorem d17 : decode yB 17 = .ok (.baload, 1) := by decide +kernel
theorem d18 : decode yB 18 = .ok (.aload_n 1, 1) := by decide +kernel
theorem d19 : decode yB 19 = .ok (.iload_n 2, 1) := by decide +kernel
theorem d20 : decode yB 20 = .ok (.baload, 1) := by decide +kernel
theorem d21 : decode yB 21 = .ok (.if_icmp (.eq) 5, 3) := by decide +kernel
theorem d24 : decode yB 24 = .ok (.iconst 0, 1) := by decide +kernel
theorem d25 : decode yB 25 = .ok (.ireturn, 1) := by decide +kernel
theorem d26 : decode yB 26 = .ok (.iinc 2 1, 3) := by decide +kernel
theorem d29 : decode yB 29 = .ok (.goto (-20), 3) := by decide +kernel
theorem d32 : decode yB 32 = .ok (.iconst 1, 1) := by decide +kernel
theorem d33 : decode yB 33 = .ok (.ireturn, 1) := by decide +kernel
theorem d34 : decode yB 34 = .ok (.iconst 0, 1) := by decide +kernel
theorem d35 : decode yB 35 = .ok (.ireturn, 1) := by decide +kernel
def site : List Cond := []
def tab : Cond := tabOf yN yB 3 (some .boolean) site
def P (a : Addr) (A : Cell) (b : Addr) (B : Cell) (args : Array Value) (s : State) : Prop := args = #[.ref a, .ref b] ∧ XT.Arr .byte a A s ∧ Typed .byte A ∧ XT.Arr .byte b B s ∧ Typed .byte B
/-- whether two byte[] are equal, place for place -/
theorem law (l : Launch) (a : Addr) (A : Cell) (b : Addr) (B : Cell) : Law l yN 2 2 0 0 yB 3 (some .boolean) site (P a A b B) (Says01 (EqC A B)) [] 0 0 := by
  refine Law.of_walk (plainFor_of_name (by decide +kernel)) (by decide +kernel) (by decide +kernel) (by decide) (fun _ _ h => by rw [h.1]; rfl) (fun _ U U' hal hh h => ⟨h.1, h.2.1.mv hal hh, h.2.2.1, h.2.2.2.1.mv hal hh, h.2.2.2.2⟩) (fun r U U' V V' h1 hal h2 h => Says01.mv r U U' V V' h1 hal h2 h) ?_
  intro p e s m args below meth c s₁ X0 hexec hbytes hml hret hlk hnm hown hh0 W hP
  obtain ⟨rfl, hA, tA, hB, tB⟩ := hP
  have a31 := hA.2.2.2
  have b31 := hB.2.2.2
  have hA0 := hA.mv X0.warmed.alike hh0
  have hB0 := hB.mv X0.warmed.alike hh0
  have c1 : Steps p.tables e below (s₁.setTop (entryFrame m #[.ref a, .ref b] 3)) (s₁.setTop (mkF m 0 #[.val (.ref a), .val (.ref b), .unset] [])) := entry rfl
  have c2 : Steps p.tables e below (s₁.setTop (entryFrame m #[.ref a, .ref b] 3)) (s₁.setTop (mkF m 4 #[.val (.ref a), .val (.ref b), .unset] [.int (Int32.ofNat B.slots.size), .int (Int32.ofNat A.slots.size)])) := c1.trans (by
    refine XS.aloadN X0.here hexec rfl (hb hbytes d0) rfl rfl ?_
    refine X0.alen hexec hA0 rfl rfl (hb hbytes d1) ?_
    refine XS.aloadN X0.here hexec rfl (hb hbytes d2) rfl rfl ?_
    refine X0.alen hexec hB0 rfl rfl (hb hbytes d3) ?_
    exact Steps.refl _)
  by_cases hs : A.slots.size = B.slots.size
  · have c3 : Steps p.tables e below (s₁.setTop (entryFrame m #[.ref a, .ref b] 3)) (s₁.setTop (mkF m 9 #[.val (.ref a), .val (.ref b), .val (.int 0)] [])) := c2.trans (by
      refine XS.icmpNo X0.here hexec rfl (hb hbytes d4) rfl (ii_ne_f (by rw [hs])) ?_
      refine iconstV X0.here hexec rfl 0 (hb hbytes d7) (by decide) ?_
      refine XS.istoreN X0.here hexec rfl (hb hbytes d8) rfl rfl ?_
      exact Steps.refl _)
    have loop : ∀ (r i : Nat), i + r = A.slots.size → (∀ j, j < i → yv A j = yv B j) → Steps p.tables e below (s₁.setTop (entryFrame m #[.ref a, .ref b] 3)) (s₁.setTop (mkF m 9 #[.val (.ref a), .val (.ref b), .val (.int (Int32.ofNat i))] [])) → ∃ (pc : Nat) (Ls : Array Slot) (v : Int32), (pc = 25 ∨ pc = 33) ∧ ((v = 1 ∧ EqC A B) ∨ (v = 0 ∧ ¬ EqC A B)) ∧ Steps p.tables e below (s₁.setTop (entryFrame m #[.ref a, .ref b] 3)) (s₁.setTop (mkF m pc Ls [.int v])) := by
      intro r
      induction r with
      | zero =>
        intro i hi he cl
        exact ⟨33, _, 1, Or.inr rfl, Or.inl ⟨rfl, hs, fun j hj => he j (by omega)⟩, cl.trans (by
          refine XS.iloadN X0.here hexec rfl (hb hbytes d9) rfl ?_
          refine XS.aloadN X0.here hexec rfl (hb hbytes d10) rfl rfl ?_
          refine X0.alen hexec hA0 rfl rfl (hb hbytes d11) ?_
          refine XS.icmpYes X0.here hexec rfl (pc0 := 12) rfl (hb hbytes d12) rfl (ii_ge_t (nlt32 (by omega) (by omega))) (by decide) rfl ?_
          refine iconstV X0.here hexec rfl 1 (hb hbytes d32) (by decide) ?_
          exact Steps.refl _)⟩
      | succ r ih =>
        intro i hi he cl
        have c4 : Steps p.tables e below (s₁.setTop (entryFrame m #[.ref a, .ref b] 3)) (s₁.setTop (mkF m 21 #[.val (.ref a), .val (.ref b), .val (.int (Int32.ofNat i))] [.int (yv B i), .int (yv A i)])) := cl.trans (by
          refine XS.iloadN X0.here hexec rfl (hb hbytes d9) rfl ?_
          refine XS.aloadN X0.here hexec rfl (hb hbytes d10) rfl rfl ?_
          refine X0.alen hexec hA0 rfl rfl (hb hbytes d11) ?_
          refine XS.icmpNo X0.here hexec rfl (hb hbytes d12) rfl (ii_ge_f (lt32 (by omega) (by omega))) ?_
          refine XS.aloadN X0.here hexec rfl (hb hbytes d15) rfl rfl ?_
          refine XS.iloadN X0.here hexec rfl (hb hbytes d16) rfl ?_
          refine X0.aget hexec hA0 rfl (yv_get hA tA (i := i) (by omega)) rfl rfl (hb hbytes d17) ?_
          refine XS.aloadN X0.here hexec rfl (hb hbytes d18) rfl rfl ?_
          refine XS.iloadN X0.here hexec rfl (hb hbytes d19) rfl ?_
          refine X0.aget hexec hB0 rfl (yv_get hB tB (i := i) (by omega)) rfl rfl (hb hbytes d20) ?_
          exact Steps.refl _)
        by_cases hv : yv A i = yv B i
        · have c5 : Steps p.tables e below (s₁.setTop (entryFrame m #[.ref a, .ref b] 3)) (s₁.setTop (mkF m 9 #[.val (.ref a), .val (.ref b), .val (.int (Int32.ofNat i + 1))] [])) := c4.trans (by
            refine XS.icmpYes X0.here hexec rfl (pc0 := 21) rfl (hb hbytes d21) rfl (ii_eq_t hv) (by decide) rfl ?_
            refine iincV X0.here hexec rfl 1 (hb hbytes d26) (by decide) rfl rfl ?_
            refine XS.goto X0.here hexec rfl (pc0 := 29) rfl (hb hbytes d29) (by decide) rfl ?_
            exact Steps.refl _)
          rw [succ32] at c5
          exact ih (i + 1) (by omega) (fun j hj => by
            by_cases e : j = i
            · rw [e]; exact hv
            · exact he j (by omega)) c5
        · exact ⟨25, _, 0, Or.inl rfl, Or.inr ⟨rfl, fun q => hv (q.2 i (by omega))⟩, c4.trans (by
            refine XS.icmpNo X0.here hexec rfl (hb hbytes d21) rfl (ii_eq_f hv) ?_
            refine iconstV X0.here hexec rfl 0 (hb hbytes d24) (by decide) ?_
            exact Steps.refl _)⟩
    obtain ⟨pc, Ls, v, hpc, hv, cz⟩ := loop A.slots.size 0 (by omega) (fun j hj => absurd hj (Nat.not_lt_zero j)) c3
    have nv : narrow .boolean (.int v) = .int v := by rcases hv with ⟨rfl, -⟩ | ⟨rfl, -⟩ <;> rfl
    rcases hpc with rfl | rfl
    · exact ⟨s₁, some (.int v), _, _, _, X0, rfl, rfl, rfl, (fun h => by cases h), ⟨v, rfl, hh0, hv⟩, fun fs hl => cz.trans (X0.ireturnOut hexec hret nv (Or.inr (Or.inl rfl)) (hb hbytes d25) hl)⟩
    · exact ⟨s₁, some (.int v), _, _, _, X0, rfl, rfl, rfl, (fun h => by cases h), ⟨v, rfl, hh0, hv⟩, fun fs hl => cz.trans (X0.ireturnOut hexec hret nv (Or.inr (Or.inl rfl)) (hb hbytes d33) hl)⟩
  · have c3 : Steps p.tables e below (s₁.setTop (entryFrame m #[.ref a, .ref b] 3)) (s₁.setTop (mkF m 35 #[.val (.ref a), .val (.ref b), .unset] [.int 0])) := c2.trans (by
      refine XS.icmpYes X0.here hexec rfl (pc0 := 4) rfl (hb hbytes d4) rfl (ii_ne_t (ne32 a31 b31 hs)) (by decide) rfl ?_
      refine iconstV X0.here hexec rfl 0 (hb hbytes d34) (by decide) ?_
      exact Steps.refl _)
    exact ⟨s₁, some (.int 0), _, _, _, X0, rfl, rfl, rfl, (fun h => by cases h), ⟨0, rfl, hh0, Or.inr ⟨rfl, fun q => hs q.1⟩⟩, fun fs hl => c3.trans (X0.ireturnOut hexec hret rfl (Or.inr (Or.inl rfl)) (hb hbytes d35) hl)⟩
end LEq
theorem Cod.ty {cd : Int32} {n : Nat} {f : Nat → Int32} {V : Cell} (h : Cod cd n f V) : Typed .byte V := fun i v hv => by
  have hi : i < V.slots.size := (Array.getElem?_eq_some_iff.mp hv).1
  rcases h with ⟨-, k1, k2⟩ | ⟨-, k1, k2, -⟩
  · rw [(k2 i (by omega)).1] at hv; cases hv; exact fits_lo8 _
  · rcases Nat.mod_two_eq_zero_or_one i with e | e
    · obtain ⟨j, rfl⟩ : ∃ j, i = 2 * j := ⟨i / 2, by omega⟩
      rw [(k2 j (by omega)).1] at hv; cases hv; exact fits_lo8 _
    · obtain ⟨j, rfl⟩ : ∃ j, i = 2 * j + 1 := ⟨i / 2, by omega⟩
      rw [(k2 j (by omega)).2] at hv; cases hv; exact fits_lo8 _
/-- the same text -/
def SameT (n : Nat) (f : Nat → Int32) (k : Nat) (g : Nat → Int32) : Prop := n = k ∧ ∀ j, j < n → f j = g j
theorem lo8_inj {x y : Int32} (h0 : ¬ x < 0) (h1 : ¬ 255 < x) (k0 : ¬ y < 0) (k1 : ¬ 255 < y) (h : lo8 x = lo8 y) : x = y := by
  rw [← lo8_mask h0 h1, ← lo8_mask k0 k1, h]
/-- arrays coded by one coder are equal just where the texts are -/
theorem Cod.eqv {cd : Int32} {n k : Nat} {f g : Nat → Int32} {V V' : Cell} (h : Cod cd n f V) (h' : Cod cd k g V') (hf : ∀ j, j < n → ¬ f j < 0 ∧ ¬ 65535 < f j) (hg : ∀ j, j < k → ¬ g j < 0 ∧ ¬ 65535 < g j) : EqC V V' ↔ SameT n f k g := by
  have yvv : ∀ {W : Cell} {i : Nat} {x : Int32}, W.slots[i]? = some (.int x) → yv W i = x := fun q => by unfold yv; rw [q]
  rcases h with ⟨rfl, k1, k2⟩ | ⟨rfl, k1, k2, -⟩
  · rcases h' with ⟨-, m1, m2⟩ | ⟨e, -⟩
    · constructor
      · rintro ⟨e1, e2⟩
        refine ⟨by omega, fun j hj => ?_⟩
        have q := e2 j (by omega)
        rw [yvv (k2 j hj).1, yvv (m2 j (by omega)).1] at q
        exact lo8_inj (hf j hj).1 (k2 j hj).2 (hg j (by omega)).1 (m2 j (by omega)).2 q
      · rintro ⟨rfl, e2⟩
        refine ⟨by omega, fun j hj => ?_⟩
        rw [yvv (k2 j (by omega)).1, yvv (m2 j (by omega)).1, e2 j (by omega)]
    · exact absurd e (by decide)
  · rcases h' with ⟨e, -⟩ | ⟨-, m1, m2, -⟩
    · exact absurd e (by decide)
    · constructor
      · rintro ⟨e1, e2⟩
        refine ⟨by omega, fun j hj => ?_⟩
        have q1 := e2 (2 * j) (by omega)
        have q2 := e2 (2 * j + 1) (by omega)
        rw [yvv (k2 j hj).1, yvv (m2 j (by omega)).1] at q1
        rw [yvv (k2 j hj).2, yvv (m2 j (by omega)).2] at q2
        rw [← pair_says (hf j hj).1 (hf j hj).2, ← pair_says (hg j (by omega)).1 (hg j (by omega)).2, q1, q2]
      · rintro ⟨rfl, e2⟩
        refine ⟨by omega, fun i hi => ?_⟩
        rcases Nat.mod_two_eq_zero_or_one i with e | e
        · obtain ⟨j, rfl⟩ : ∃ j, i = 2 * j := ⟨i / 2, by omega⟩
          rw [yvv (k2 j (by omega)).1, yvv (m2 j (by omega)).1, e2 j (by omega)]
        · obtain ⟨j, rfl⟩ : ∃ j, i = 2 * j + 1 := ⟨i / 2, by omega⟩
          rw [yvv (k2 j (by omega)).2, yvv (m2 j (by omega)).2, e2 j (by omega)]
/-- two codings differ: so do the texts -/
theorem Cod.dif {cd cd' : Int32} {n k : Nat} {f g : Nat → Int32} {V V' : Cell} (h : Cod cd n f V) (h' : Cod cd' k g V') (hne : ¬ cd = cd') : ¬ SameT n f k g := by
  rintro ⟨rfl, e⟩
  rcases h with ⟨rfl, -, k2⟩ | ⟨rfl, -, -, j, hj, hw⟩
  · rcases h' with ⟨rfl, -⟩ | ⟨-, -, -, j, hj, hw⟩
    · exact hne rfl
    · exact (k2 j hj).2 (by rw [e j hj]; exact hw)
  · rcases h' with ⟨-, -, m2⟩ | ⟨rfl, -⟩
    · exact (m2 j hj).2 (by rw [← e j hj]; exact hw)
    · exact hne rfl
/-- an object of exactly C is an instance of C -/
theorem cinst {p : Program} {l : Launch} {e : Env} {R : Room} {s : State} {m : MethodId} {args : Array Value} {below : List Frame} {meth : Method} {c : Code} {T : State} {locs : List Loc} {cells slots : Nat} (X : Stand p l e R s m args below meth c T locs cells slots) (hexec : p.tables.exec = Jvm.exec) {own C : String} {index : Nat} (hown : s.vm.findClass own = some m.cls) (hlink : (Cond.classLink own index C).before args s = true) {a : Addr} (hE : Exact C a T)
    {g : JFrame} (hg : g.method = m) {rest : List Value} (hstack : g.stack = .ref a :: rest) (hdg : decode c.code g.pc = .ok (.instanceof index, 3)) :
    ∃ T', Stand p l e R s m args below meth c T' locs cells slots ∧ T'.heap = T.heap ∧ ∀ target, Steps p.tables e below (T'.setTop { g with pc := g.pc + 3, stack := .int 1 :: rest }) target → Steps p.tables e below (T.setTop g) target := by
  obtain ⟨cB, h1, D, h2, h3, h4⟩ := hE
  have h1' : s.vm.findClass C = some cB := by rw [← X.warmed.alike.findClass]; exact h1
  obtain ⟨vm', X', st⟩ := X.instanceofYes hexec hown hlink h2 h4 h1' (by rw [h3]; exact Jvm.Free.SB.assignable_self _ _) hg hstack hdg
  exact ⟨_, X', rfl, st⟩
theorem cself {p : Program} {l : Launch} {e : Env} {R : Room} {s : State} {m : MethodId} {args : Array Value} {below : List Frame} {meth : Method} {c : Code} {T : State} {locs : List Loc} {cells slots : Nat} (X : Stand p l e R s m args below meth c T locs cells slots) (hexec : p.tables.exec = Jvm.exec) {own C : String} {index : Nat} (hown : s.vm.findClass own = some m.cls) (hlink : (Cond.classLink own index C).before args s = true) {a : Addr} (hE : Exact C a T)
    {g : JFrame} (hg : g.method = m) {rest : List Value} (hstack : g.stack = .ref a :: rest) (hdg : decode c.code g.pc = .ok (.checkcast index, 3)) :
    ∃ T', Stand p l e R s m args below meth c T' locs cells slots ∧ T'.heap = T.heap ∧ ∀ target, Steps p.tables e below (T'.setTop { g with pc := g.pc + 3, stack := .ref a :: rest }) target → Steps p.tables e below (T.setTop g) target := by
  obtain ⟨cB, h1, D, h2, h3, h4⟩ := hE
  have h1' : s.vm.findClass C = some cB := by rw [← X.warmed.alike.findClass]; exact h1
  obtain ⟨vm', X', st⟩ := X.checkcastYes hexec hown hlink h2 h4 h1' (by rw [h3]; exact Jvm.Free.SB.assignable_self _ _) hg hstack hdg
  exact ⟨_, X', rfl, fun t h => st t (by rw [← hstack] at h; exact h)⟩
namespace SEq
def yN : MethodName := ⟨"java/lang/String", "equals", "(Ljava/lang/Object;)Z"⟩
abbrev yB : ByteArray := jdk_42_method_66_code
theorem d0 : decode yB 0 = .ok (.aload_n 0, 1) := by decide +kernel
theorem d1 : decode yB 1 = .ok (.aload_n 1, 1) := by decide +kernel
theorem d2 : decode yB 2 = .ok (.if_acmp (.ne) 5, 3) := by decide +kernel
theorem d5 : decode yB 5 = .ok (.iconst 1, 1) := by decide +kernel
theorem d6 : decode yB 6 = .ok (.ireturn, 1) := by decide +kernel
theorem d7 : decode yB 7 = .ok (.aload_n 1, 1) := by decide +kernel
theorem d8 : decode yB 8 = .ok (.instanceof 10, 3) := by decide +kernel
theorem d11 : decode yB 11 = .ok (.ifCond (.eq) 43, 3) := by decide +kernel
theorem d14 : decode yB 14 = .ok (.aload_n 1, 1) := by decide +kernel
theorem d15 : decode yB 15 = .ok (.checkcast 10, 3) := by decide +kernel
theorem d18 : decode yB 18 = .ok (.astore_n 2, 1) := by decide +kernel
theorem d19 : decode yB 19 = .ok (.getstatic 38, 3) := by decide +kernel
theorem d22 : decode yB 22 = .ok (.ifCond (.eq) 14, 3) := by decide +kernel
theorem d25 : decode yB 25 = .ok (.aload_n 0, 1) := by decide +kernel
theorem d26 : decode yB 26 = .ok (.getfield 15, 3) := by decide +kernel
theorem d29 : decode yB 29 = .ok (.aload_n 2, 1) := by decide +kernel
theorem d30 : decode yB 30 = .ok (.getfield 15, 3) := by decide +kernel
theorem d33 : decode yB 33 = .ok (.if_icmp (.ne) 21, 3) := by decide +kernel
theorem d36 : decode yB 36 = .ok (.aload_n 0, 1) := by decide +kernel
theorem d37 : decode yB 37 = .ok (.getfield 9, 3) := by decide +kernel
theorem d40 : decode yB 40 = .ok (.aload_n 2, 1) := by decide +kernel
theorem d41 : decode yB 41 = .ok (.getfield 9, 3) := by decide +kernel
theorem d44 : decode yB 44 = .ok (.invokestatic 541, 3) := by decide +kernel
theorem d47 : decode yB 47 = .ok (.ifCond (.eq) 7, 3) := by decide +kernel
theorem d50 : decode yB 50 = .ok (.iconst 1, 1) := by decide +kernel
theorem d51 : decode yB 51 = .ok (.goto 4, 3) := by decide +kernel
theorem d54 : decode yB 54 = .ok (.iconst 0, 1) := by decide +kernel
theorem d55 : decode yB 55 = .ok (.ireturn, 1) := by decide +kernel
def site : List Cond := [.classLink "java/lang/String" 10 "java/lang/String", .fieldLink "java/lang/String" 38 "java/lang/String" "COMPACT_STRINGS" "Z", .fieldLink "java/lang/String" 15 "java/lang/String" "coder" "B", .fieldLink "java/lang/String" 9 "java/lang/String" "value" "[B", LEq.tab] ++ staticW "java/lang/String" 541 LEq.yN
def tab : Cond := tabOf yN yB 3 (some .boolean) site
def P (x t : Addr) (V : Cell) (cd : Int32) (n : Nat) (f : Nat → Int32) (y t' : Addr) (V' : Cell) (cd' : Int32) (k : Nat) (g : Nat → Int32) (z : Int32) (args : Array Value) (s : State) : Prop := args = #[.ref x, .ref y] ∧ Txt x t V cd n f s ∧ Txt y t' V' cd' k g s ∧ StaticIs s "java/lang/String" "COMPACT_STRINGS" "Z" (.int z) ∧ ¬ z = 0
/-- equals(Object) of two Strings: whether the texts are the same -/
theorem law (l : Launch) (x t : Addr) (V : Cell) (cd : Int32) (n : Nat) (f : Nat → Int32) (y t' : Addr) (V' : Cell) (cd' : Int32) (k : Nat) (g : Nat → Int32) (z : Int32) : Law l yN 2 1 1 14 yB 3 (some .boolean) site (P x t V cd n f y t' V' cd' k g z) (Says01 (SameT n f k g)) [] 0 0 := by
  refine Law.of_walk (plainFor_of_name (by decide +kernel)) (by decide +kernel) (by decide +kernel) (by decide) (fun _ _ h => by rw [h.1]; rfl) (fun _ U U' hal hh h => ⟨h.1, h.2.1.mv hal hh, h.2.2.1.mv hal hh, h.2.2.2.1.there hal hh, h.2.2.2.2⟩) (fun r U U' V V' h1 hal h2 h => Says01.mv r U U' V V' h1 hal h2 h) ?_
  intro p e s m args below meth c s₁ X0 hexec hbytes hml hret hlk hnm hown hh0 W hP
  obtain ⟨rfl, hx, hy, s1, hz⟩ := hP
  have c1 : Steps p.tables e below (s₁.setTop (entryFrame m #[.ref x, .ref y] 3)) (s₁.setTop (mkF m 2 #[.val (.ref x), .val (.ref y), .unset] [.ref y, .ref x])) := Steps.trans (entry rfl) (by
    show Steps p.tables e below (s₁.setTop (mkF m 0 #[.val (.ref x), .val (.ref y), .unset] [])) _
    refine XS.aloadN X0.here hexec rfl (hb hbytes d0) rfl rfl ?_
    refine XS.aloadN X0.here hexec rfl (hb hbytes d1) rfl rfl ?_
    exact Steps.refl _)
  by_cases hxy : x = y
  · have c2 : Steps p.tables e below (s₁.setTop (entryFrame m #[.ref x, .ref y] 3)) (s₁.setTop (mkF m 6 #[.val (.ref x), .val (.ref y), .unset] [.int 1])) := c1.trans (by
      refine acmpNo X0.here hexec rfl (hb hbytes d2) rfl rfl rfl (by simp [acmp, hxy]) ?_
      refine iconstV X0.here hexec rfl 1 (hb hbytes d5) (by decide) ?_
      exact Steps.refl _)
    subst hxy
    have ec : cd = cd' := by
      obtain ⟨D, fd, a1, a2, a3⟩ := hx.2.2.1
      obtain ⟨D', fd', b1, b2, b3⟩ := hy.2.2.1
      cases a1.symm.trans b1
      obtain ⟨q1, q2, q3, q4⟩ := a2.1
      obtain ⟨r1, r2, r3, r4⟩ := b2.1
      cases q4.symm.trans r4
      cases a3.symm.trans b3; rfl
    have et : t = t' := by
      obtain ⟨D, fd, a1, a2, a3⟩ := hx.2.1
      obtain ⟨D', fd', b1, b2, b3⟩ := hy.2.1
      cases a1.symm.trans b1
      obtain ⟨q1, q2, q3, q4⟩ := a2.1
      obtain ⟨r1, r2, r3, r4⟩ := b2.1
      cases q4.symm.trans r4
      cases a3.symm.trans b3; rfl
    subst ec et
    have ev : V = V' := by cases hx.2.2.2.1.1.symm.trans hy.2.2.2.1.1; rfl
    subst ev
    have hs : SameT n f k g := (Cod.eqv hx.2.2.2.2.1 hy.2.2.2.2.1 hx.2.2.2.2.2 hy.2.2.2.2.2).mp ⟨rfl, fun _ _ => rfl⟩
    exact ⟨s₁, some (.int 1), _, _, _, X0, rfl, rfl, rfl, (fun h => by cases h), ⟨1, rfl, hh0, Or.inl ⟨rfl, hs⟩⟩, fun fs hl => c2.trans (X0.ireturnOut hexec hret rfl (Or.inr (Or.inl rfl)) (hb hbytes d6) hl)⟩
  · have c2 : Steps p.tables e below (s₁.setTop (entryFrame m #[.ref x, .ref y] 3)) (s₁.setTop (mkF m 8 #[.val (.ref x), .val (.ref y), .unset] [.ref y])) := c1.trans (by
      refine acmpYes X0.here hexec rfl (pc0 := 2) rfl (hb hbytes d2) rfl rfl rfl (by simp [acmp, hxy]) (by decide) rfl ?_
      refine XS.aloadN X0.here hexec rfl (hb hbytes d7) rfl rfl ?_
      exact Steps.refl _)
    obtain ⟨T3, X3, q3, st3⟩ := cinst X0 hexec hown (wk W (.classLink "java/lang/String" 10 "java/lang/String")) (hy.mv X0.warmed.alike hh0).1 (g := (mkF m 8 #[.val (.ref x), .val (.ref y), .unset] [.ref y])) rfl (rest := []) rfl (hb hbytes d8)
    have hh3 := q3.trans hh0
    have c4 : Steps p.tables e below (s₁.setTop (entryFrame m #[.ref x, .ref y] 3)) (T3.setTop (mkF m 15 #[.val (.ref x), .val (.ref y), .unset] [.ref y])) := (c2.trans (st3 _ (Steps.refl _))).trans (by
      refine XS.ifNo X3.here hexec rfl (hb hbytes d11) rfl (i0_eq_f (by decide)) ?_
      refine XS.aloadN X3.here hexec rfl (hb hbytes d14) rfl rfl ?_
      exact Steps.refl _)
    obtain ⟨T5, X5, q5, st5⟩ := cself X3 hexec hown (wk W (.classLink "java/lang/String" 10 "java/lang/String")) (hy.mv X3.warmed.alike hh3).1 (g := (mkF m 15 #[.val (.ref x), .val (.ref y), .unset] [.ref y])) rfl (rest := []) rfl (hb hbytes d15)
    have hh5 := q5.trans hh3
    have c6 : Steps p.tables e below (s₁.setTop (entryFrame m #[.ref x, .ref y] 3)) (T5.setTop (mkF m 19 #[.val (.ref x), .val (.ref y), .val (.ref y)] [])) := (c4.trans (st5 _ (Steps.refl _))).trans (by
      refine XS.astoreN X5.here hexec rfl (hb hbytes d18) rfl rfl rfl ?_
      exact Steps.refl _)
    obtain ⟨T7, X7, q7, st7⟩ := X5.sget hexec hown (wk W (.fieldLink "java/lang/String" 38 "java/lang/String" "COMPACT_STRINGS" "Z")) s1 (fun _ _ h => by rw [hh5]; exact h) (g := (mkF m 19 #[.val (.ref x), .val (.ref y), .val (.ref y)] [])) rfl (hb hbytes d19)
    have hh7 := q7.trans hh5
    have c8 : Steps p.tables e below (s₁.setTop (entryFrame m #[.ref x, .ref y] 3)) (T7.setTop (mkF m 26 #[.val (.ref x), .val (.ref y), .val (.ref y)] [.ref x])) := (c6.trans (st7 _ (Steps.refl _))).trans (by
      refine XS.ifNo X7.here hexec rfl (hb hbytes d22) rfl (i0_eq_f hz) ?_
      refine XS.aloadN X7.here hexec rfl (hb hbytes d25) rfl rfl ?_
      exact Steps.refl _)
    obtain ⟨T9, X9, q9, st9⟩ := X7.hget hexec hown (wk W (.fieldLink "java/lang/String" 15 "java/lang/String" "coder" "B")) (hx.mv X7.warmed.alike hh7).2.2.1 (g := (mkF m 26 #[.val (.ref x), .val (.ref y), .val (.ref y)] [.ref x])) rfl (rest := []) rfl (hb hbytes d26)
    have hh9 := q9.trans hh7
    have c10 : Steps p.tables e below (s₁.setTop (entryFrame m #[.ref x, .ref y] 3)) (T9.setTop (mkF m 30 #[.val (.ref x), .val (.ref y), .val (.ref y)] [.ref y, .int cd])) := (c8.trans (st9 _ (Steps.refl _))).trans (by
      refine XS.aloadN X9.here hexec rfl (hb hbytes d29) rfl rfl ?_
      exact Steps.refl _)
    obtain ⟨T11, X11, q11, st11⟩ := X9.hget hexec hown (wk W (.fieldLink "java/lang/String" 15 "java/lang/String" "coder" "B")) (hy.mv X9.warmed.alike hh9).2.2.1 (g := (mkF m 30 #[.val (.ref x), .val (.ref y), .val (.ref y)] [.ref y, .int cd])) rfl (rest := [.int cd]) rfl (hb hbytes d30)
    have hh11 := q11.trans hh9
    have c12 : Steps p.tables e below (s₁.setTop (entryFrame m #[.ref x, .ref y] 3)) (T11.setTop (mkF m 33 #[.val (.ref x), .val (.ref y), .val (.ref y)] [.int cd', .int cd])) := c10.trans (st11 _ (Steps.refl _))
    by_cases hcd : cd = cd'
    · subst hcd
      have c13 : Steps p.tables e below (s₁.setTop (entryFrame m #[.ref x, .ref y] 3)) (T11.setTop (mkF m 37 #[.val (.ref x), .val (.ref y), .val (.ref y)] [.ref x])) := c12.trans (by
        refine XS.icmpNo X11.here hexec rfl (hb hbytes d33) rfl (ii_ne_f rfl) ?_
        refine XS.aloadN X11.here hexec rfl (hb hbytes d36) rfl rfl ?_
        exact Steps.refl _)
      obtain ⟨T14, X14, q14, st14⟩ := X11.hget hexec hown (wk W (.fieldLink "java/lang/String" 9 "java/lang/String" "value" "[B")) (hx.mv X11.warmed.alike hh11).2.1 (g := (mkF m 37 #[.val (.ref x), .val (.ref y), .val (.ref y)] [.ref x])) rfl (rest := []) rfl (hb hbytes d37)
      have hh14 := q14.trans hh11
      have c15 : Steps p.tables e below (s₁.setTop (entryFrame m #[.ref x, .ref y] 3)) (T14.setTop (mkF m 41 #[.val (.ref x), .val (.ref y), .val (.ref y)] [.ref y, .ref t])) := (c13.trans (st14 _ (Steps.refl _))).trans (by
        refine XS.aloadN X14.here hexec rfl (hb hbytes d40) rfl rfl ?_
        exact Steps.refl _)
      obtain ⟨T16, X16, q16, st16⟩ := X14.hget hexec hown (wk W (.fieldLink "java/lang/String" 9 "java/lang/String" "value" "[B")) (hy.mv X14.warmed.alike hh14).2.1 (g := (mkF m 41 #[.val (.ref x), .val (.ref y), .val (.ref y)] [.ref y, .ref t])) rfl (rest := [.ref t]) rfl (hb hbytes d41)
      have hh16 := q16.trans hh14
      have c17 : Steps p.tables e below (s₁.setTop (entryFrame m #[.ref x, .ref y] 3)) (T16.setTop (mkF m 44 #[.val (.ref x), .val (.ref y), .val (.ref y)] [.ref t', .ref t])) := c15.trans (st16 _ (Steps.refl _))
      obtain ⟨v18, T18, X18, E18, g18⟩ := X16.callS hexec (LEq.law l t V t' V') hown (wks W (staticW "java/lang/String" 541 LEq.yN)) (wk W LEq.tab) (W := 0) (Nat.le_of_ble_eq_true rfl) (Nat.le_of_ble_eq_true rfl) (Nat.le_refl _) (Nat.le_refl _) (g := (mkF m 44 #[.val (.ref x), .val (.ref y), .val (.ref y)] [.ref t', .ref t])) rfl (by rw [hml]; rfl) c17 (argsL := [.ref t, .ref t']) (rest := []) rfl rfl (by show 2 * 0 + 0 ≤ _; decide) (hb hbytes d44) (⟨rfl, hx.2.2.2.1.mv X16.warmed.alike hh16, hx.2.2.2.2.1.ty, hy.2.2.2.1.mv X16.warmed.alike hh16, hy.2.2.2.2.1.ty⟩)
      obtain ⟨v, rfl, q18, hv⟩ := E18
      have iff := Cod.eqv hx.2.2.2.2.1 hy.2.2.2.2.1 hx.2.2.2.2.2 hy.2.2.2.2.2
      rcases hv with ⟨rfl, he⟩ | ⟨rfl, he⟩
      · have c19 : Steps p.tables e below (s₁.setTop (entryFrame m #[.ref x, .ref y] 3)) (T18.setTop (mkF m 55 #[.val (.ref x), .val (.ref y), .val (.ref y)] [.int 1])) := Steps.trans g18 (by
          refine XS.ifNo X18.here hexec rfl (hb hbytes d47) rfl (i0_eq_f (by decide)) ?_
          refine iconstV X18.here hexec rfl 1 (hb hbytes d50) (by decide) ?_
          refine XS.goto X18.here hexec rfl (pc0 := 51) rfl (hb hbytes d51) (by decide) rfl ?_
          exact Steps.refl _)
        exact ⟨T18, some (.int 1), _, _, _, X18, rfl, rfl, rfl, (fun h => by cases h), ⟨1, rfl, q18.trans hh16, Or.inl ⟨rfl, iff.mp he⟩⟩, fun fs hl => c19.trans (X18.ireturnOut hexec hret rfl (Or.inr (Or.inl rfl)) (hb hbytes d55) hl)⟩
      · have c19 : Steps p.tables e below (s₁.setTop (entryFrame m #[.ref x, .ref y] 3)) (T18.setTop (mkF m 55 #[.val (.ref x), .val (.ref y), .val (.ref y)] [.int 0])) := Steps.trans g18 (by
          refine XS.ifYes X18.here hexec rfl (pc0 := 47) rfl (hb hbytes d47) rfl (i0_eq_t rfl) (by decide) rfl ?_
          refine iconstV X18.here hexec rfl 0 (hb hbytes d54) (by decide) ?_
          exact Steps.refl _)
        exact ⟨T18, some (.int 0), _, _, _, X18, rfl, rfl, rfl, (fun h => by cases h), ⟨0, rfl, q18.trans hh16, Or.inr ⟨rfl, fun q => he (iff.mpr q)⟩⟩, fun fs hl => c19.trans (X18.ireturnOut hexec hret rfl (Or.inr (Or.inl rfl)) (hb hbytes d55) hl)⟩
    · have c13 : Steps p.tables e below (s₁.setTop (entryFrame m #[.ref x, .ref y] 3)) (T11.setTop (mkF m 55 #[.val (.ref x), .val (.ref y), .val (.ref y)] [.int 0])) := c12.trans (by
        refine XS.icmpYes X11.here hexec rfl (pc0 := 33) rfl (hb hbytes d33) rfl (ii_ne_t hcd) (by decide) rfl ?_
        refine iconstV X11.here hexec rfl 0 (hb hbytes d54) (by decide) ?_
        exact Steps.refl _)
      exact ⟨T11, some (.int 0), _, _, _, X11, rfl, rfl, rfl, (fun h => by cases h), ⟨0, rfl, hh11, Or.inr ⟨rfl, Cod.dif hx.2.2.2.2.1 hy.2.2.2.2.1 hcd⟩⟩, fun fs hl => c13.trans (X11.ireturnOut hexec hret rfl (Or.inr (Or.inl rfl)) (hb hbytes d55) hl)⟩
theorem pays {l : Launch} {R : Room} {p : Program} {e : Env} {below : List Frame} {s : State} {sargs : Array Value} {len W : Nat} (x t : Addr) (V : Cell) (cd : Int32) (n : Nat) (f : Nat → Int32) (y t' : Addr) (V' : Cell) (cd' : Int32) (k : Nat) (g : Nat → Int32) (z : Int32) (htab : tab.before sargs s = true) (hfr : 2 ≤ R.frames) (hlo : W + 28 ≤ R.locals) :
    Back l R p e below s sargs yN len W (fun A₁ a₁ => A₁.cells + 0 ≤ R.cells ∧ A₁.slots + 0 ≤ R.slots ∧ P x t V cd n f y t' V' cd' k g z a₁ A₁.U) (fun A₁ _ v₁ B₁ => Says01 (SameT n f k g) v₁ A₁.U B₁.U ∧ B₁.locs = A₁.locs ++ [] ∧ B₁.cells = A₁.cells + 0 ∧ B₁.slots = A₁.slots + 0) :=
  (law l x t V cd n f y t' V' cd' k g z).pays htab hfr (by omega)
end SEq
end StrChars
namespace StrChars.Road
open Jvm Sem ClassFile Op Lib Jvm.Stand Jvm.Free Jvm.Free.XT
open Jvm.Lib.Cold (StaticIs)
/-- the words of String.equals(Object) -/
abbrev wordsEq : List Jvm.Cond := [.code SEq.yN SEq.yB 3 (some .boolean), .initialized ST, .classLink ST 10 ST, .fieldLink ST 38 ST "COMPACT_STRINGS" "Z", .fieldLink ST 15 ST "coder" "B", .fieldLink ST 9 ST "value" "[B", .methodLink ST 541 LEq.yN, .static LEq.yN, .code LEq.yN LEq.yB 3 (some .boolean), .initialized "java/lang/StringLatin1"]
theorem tabEq_of {a : Array Value} {s : State} (h : ∀ w ∈ wordsEq, w.before a s = true) : SEq.tab.before a s = true := by
  have hl : LEq.tab.before a s = true := unparts (wk h (.code LEq.yN LEq.yB 3 (some .boolean))) (wks h (.initialized LEq.yN.cls :: LEq.site))
  have q := consq hl h
  exact unparts (wk q (.code SEq.yN SEq.yB 3 (some .boolean))) (wks q (.initialized SEq.yN.cls :: SEq.site))
theorem movedEq {Z s : State} {a0 args : Array Value} (hZ : Z.Warmed39 s.vm) (hw : ∀ d ∈ wordsEq, d.before a0 Z = true) : ∀ d ∈ wordsEq, d.before args s = true := fun d hd => by
  have t : ∀ d ∈ wordsEq, (d.onTables && d.keepsFace) = true := by decide +kernel
  exact RoadKit.mv hZ (hw d hd) (t d hd)
/-- the road's facts of a String, as the laws ask it -/
theorem txt_of {Z U : State} {a0 : Array Value} {kI : Nat} (wi : (Jvm.Cond.instantiable ST kI).before a0 Z = true) (al : Z.vm.Alike U.vm) {x t : Addr} {kb : ClassId} {cs : List Int32} {cd N2 : Int32} {vs : List Value} (E : RoadKit.Exa Z U.heap x ST) (V : RoadKit.Fld Z U.heap x ST "value" "[B" (.ref t)) (C : RoadKit.Fld Z U.heap x ST "coder" "B" (.int cd)) (K : RoadKit.Arv Z U.heap t kb .byte N2 vs (.int 0)) (hc : CodA cs cd N2 vs) (hb : ∀ c ∈ cs, ¬ c < 0 ∧ ¬ (65535 : Int32) < c) (l2 : cs.length ≤ 4000) :
    ∃ A, Txt x t A cd cs.length (fun j => cs.getD j 0) U := by
  obtain ⟨A, K1, K2, K3, K4, K5, K6⟩ := K
  have hcod := hc.cod (by omega) K3 K5
  obtain ⟨D, fV, fC, hB, F1, F2, g1, g2, -, -⟩ := strObj wi al E V C
  exact ⟨A, ⟨_, hB.2.2.1, D, hB.1, rfl, by cases q : D.vm <;> first | rfl | exact absurd q (hB.2.1.2 _)⟩, Has.of hB F1 g1, Has.of hB F2 g2, ⟨K1.1, State.isArrayOf_alike al K1.2.1, K1.2.2, by rcases hcod with ⟨-, q, -⟩ | ⟨-, q, -⟩ <;> omega⟩, hcod, fun j hj => by
    have e : cs.getD j 0 = cs[j] := by simp [List.getD_eq_getElem?_getD, hj]
    show ¬ cs.getD j 0 < 0 ∧ ¬ 65535 < cs.getD j 0
    rw [e]; exact hb _ (List.getElem_mem _)⟩
theorem same_list (cs ds : List Int32) : SameT cs.length (fun j => cs.getD j 0) ds.length (fun j => ds.getD j 0) ↔ cs = ds := by
  constructor
  · rintro ⟨e, q⟩
    refine List.ext_getElem e fun j h1 h2 => ?_
    have := q j h1
    simpa [List.getD_eq_getElem?_getD, h1, h2] using this
  · rintro rfl
    exact ⟨rfl, fun _ _ => rfl⟩
/-- **equals(Object) OF TWO SUCH STRINGS**: 1 just where the chars are the same -/
theorem eqW {p : Program} {l : Launch} {e : Env} {R : Room} {s : State} {args : Array Value} {below : List Frame} {len W : Nat} {Z : State} {a0 : Array Value} {h : Heap} (hZ : Z.Warmed39 s.vm) (hw : ∀ d ∈ wordsEq, d.before a0 Z = true) {kI : Nat} (wi : (Jvm.Cond.instantiable ST kI).before a0 Z = true)
    {x t : Addr} {kb : ClassId} {cs : List Int32} {cd N2 : Int32} {vs : List Value} (E : RoadKit.Exa Z h x ST) (V : RoadKit.Fld Z h x ST "value" "[B" (.ref t)) (C : RoadKit.Fld Z h x ST "coder" "B" (.int cd)) (K : RoadKit.Arv Z h t kb .byte N2 vs (.int 0)) (hc : CodA cs cd N2 vs) (hb : ∀ c ∈ cs, ¬ c < 0 ∧ ¬ (65535 : Int32) < c) (l2 : cs.length ≤ 4000)
    {y t' : Addr} {kb' : ClassId} {ds : List Int32} {cd' N2' : Int32} {vs' : List Value} (E' : RoadKit.Exa Z h y ST) (V' : RoadKit.Fld Z h y ST "value" "[B" (.ref t')) (C' : RoadKit.Fld Z h y ST "coder" "B" (.int cd')) (K' : RoadKit.Arv Z h t' kb' .byte N2' vs' (.int 0)) (hc' : CodA ds cd' N2' vs') (hb' : ∀ c ∈ ds, ¬ c < 0 ∧ ¬ (65535 : Int32) < c) (l2' : ds.length ≤ 4000)
    {z : Int32} (S : RoadKit.Sta Z h ST "COMPACT_STRINGS" "Z" (.int z)) (hz : ¬ z = 0) (hfr : 2 ≤ R.frames) (hlo : W + 28 ≤ R.locals) :
    Back l R p e below s args (⟨"java/lang/String", "equals", "(Ljava/lang/Object;)Z"⟩ : MethodName) len W (fun P a => a = #[.ref x, .ref y] ∧ P.U.heap = h ∧ P.cells + 0 ≤ R.cells ∧ P.slots + 0 ≤ R.slots)
      (fun P _ v B => ∃ L, (((v = some (.int 1) ∧ cs = ds) ∨ (v = some (.int 0) ∧ ¬ cs = ds)) ∧ L = [] ∧ B.U.heap = h) ∧ B.locs = P.locs ++ L ∧ B.cells = P.cells + 0 ∧ B.slots = P.slots + 0) := by
  intro m meth c P g ig mk a X hg hsize hdg hW hn hp'
  obtain ⟨rfl, rfl, r1, r2⟩ := hp'
  have al : Z.vm.Alike P.U.vm := hZ.alike.trans X.warmed.alike
  obtain ⟨A, hx⟩ := txt_of wi al E V C K hc hb l2
  obtain ⟨A', hy⟩ := txt_of wi al E' V' C' K' hc' hb' l2'
  obtain ⟨v, B, X', ⟨⟨w, hv, hh, hq⟩, hl, hk, hs⟩, st⟩ := SEq.pays x t A cd cs.length (fun j => cs.getD j 0) y t' A' cd' ds.length (fun j => ds.getD j 0) z (tabEq_of (movedEq hZ hw)) hfr hlo m meth c P g ig mk _ X hg hsize hdg hW hn ⟨r1, r2, rfl, hx, hy, sta_is al S, hz⟩
  refine ⟨v, B, X', ⟨[], ⟨?_, rfl, hh⟩, hl, hk, hs⟩, st⟩
  rcases hq with ⟨rfl, q⟩ | ⟨rfl, q⟩
  · exact Or.inl ⟨hv, (same_list cs ds).mp q⟩
  · exact Or.inr ⟨hv, fun e => q ((same_list cs ds).mpr e)⟩
end StrChars.Road
namespace StrChars.Road
open Jvm Sem ClassFile Op Lib Jvm.Stand Jvm.Free Jvm.Free.XT
open Jvm.Lib.Cold (StaticIs)
/-- what backV says of its String, as the contracts of this text ask it: cs's low bytes, coder 0 -/
theorem codOf {cs : List Int32} {n : Nat} (hn : cs.length = n) (hb : ∀ c ∈ cs, ¬ 255 < c) : CodA cs 0 (Int32.ofNat n) ((cs.map lo8).map Value.int) := Or.inl ⟨rfl, by rw [hn], by simp [List.map_map, Function.comp_def], hb⟩
end StrChars.Road
end Jvm.Pilot.@@N@@

namespace Jvm.Pilot.@@N@@.Own
open Jvm Jvm.ClassFile Sem Op Lib Jvm.Free Jvm.Stand Jvm.LawKit Jvm.RoadKit
abbrev ST : String := "java/lang/String"
abbrev Nar (s : State) (vm : Vm) : Prop := vm = s.vm
/-- where a walk stands -/
def Sit (p : Program) (l : Launch) (e : Env) (R : Room) (s : State) (m : MethodId) (args : Array Value) (below : List Frame) (meth : Method) (c : Code) (Z : State) (EL : List (String × Nat)) (own : String) (vm : Vm) (T : State) (h : Heap) (k n : Nat) : Prop :=
  ∃ locs : List Loc, Stand p l e R (s.setVm vm) m args below meth c T locs k n ∧ T.heap = h ∧ Z.Warmed39 vm ∧ vm.findClass own = some m.cls ∧ (∃ j, s.Since vm j ∧ j ≤ h.size) ∧ CHr Z EL s.vm s.heap vm h ∧ Fr Z.heap.size locs ∧ Ext Z.heap s.heap ∧ Nar s vm
/-- one step of the heap and the tables: what was kept, what may be booked -/
def Stp (Z : State) (EL : List (String × Nat)) (vm : Vm) (h : Heap) (vm' : Vm) (h' : Heap) (ws : List Addr) : Prop := Keep h h' ws ∧ CHr Z EL vm h vm' h'
def Cl (p : Program) (e : Env) (below : List Frame) (G : State → JFrame → Prop) : Prop := ∀ (T T' : State) (g g' : JFrame), (∀ t, Steps p.tables e below (T'.setTop g') t → Steps p.tables e below (T.setTop g) t) → G T' g' → G T g
def Rt (p : Program) (l : Launch) (e : Env) (R : Room) (s : State) (m : MethodId) (args : Array Value) (below : List Frame) (meth : Method) (c : Code) (Z : State) (EL : List (String × Nat)) (own : String) (Q : Option Value → Heap → Prop) (G : State → JFrame → Prop) : Prop :=
  ∀ (vm : Vm) (T : State) (h : Heap) (k n : Nat) (v : Option Value) (g : JFrame), Sit p l e R s m args below meth c Z EL own vm T h k n → k ≤ R.cells → n ≤ R.slots → (meth.sig.returnType = none → v = none) → Q v h →
    (∀ fs, (∀ (f : JFrame) (acts : List Action), f.method = m → f.locked = none → f.entered = [] → (doReturn e (T.setTop f) acts v).1 = T.setFrames fs) → Steps p.tables e below (T.setTop g) (T.setFrames fs)) → G T g
def Con (l : Launch) (Z : State) (EL : List (String × Nat)) (y : MethodName) (bytes : ByteArray) (maxL : Nat) (ret : Option FieldType) (ws : List Jvm.Cond) (rm : Room) (as : Array Value) (h : Heap) (Q : Option Value → Heap → Prop) : Prop :=
  MetFree l y (head1 (Jvm.Cond.code y bytes maxL ret :: ws) rm) (fun a U => a = as ∧ Z.Warmed39 U.vm ∧ U.heap = h) (fun _ _ _ _ _ => True) (fun _ U o U' => ∃ v L, o = .returned v ∧ (Q v U'.heap ∧ Fr Z.heap.size L) ∧ FrameEnd U o U' L rm.cells rm.slots)
section L
variable {p : Program} {l : Launch} {e : Env} {R : Room} {s : State} {m : MethodId} {args : Array Value} {below : List Frame} {meth : Method} {c : Code} {Z : State} {EL : List (String × Nat)} {own : String} {a0 : Array Value} {vm vm' vm'' : Vm} {T T' : State} {h h' h'' : Heap} {k n : Nat} {G : State → JFrame → Prop} {ws ws' us : List Addr} {x a b t : Addr}
theorem irem {tb : Tables} [Ours tb] {target : State} {g : JFrame} (h : At T m c below) (hx : tb.exec = Jvm.exec) (hg : g.method = m) {x y : Int32} {rest : List Value} (hd : decode c.code g.pc = .ok (.irem, 1)) (hs : g.stack = .int y :: .int x :: rest) (hy : y ≠ 0) (hr : Steps tb e below (T.setTop { g with pc := g.pc + 1, stack := .int (x % y) :: rest }) target) : Steps tb e below (T.setTop g) target := by
  have q : x - x / y * y = x % y := irem_eq_mod x y
  exact XS.irem h hx hg hd hs hy (by rw [q]; exact hr)
theorem Cl.st (hG : Cl p e below G) {T T' : State} {g g' : JFrame} (f : ∀ t, Steps p.tables e below (T'.setTop g') t → Steps p.tables e below (T.setTop g) t) (q : G T' g') : G T g := hG T T' g g' f q
theorem old_ext {locs : List Loc} (X : Stand p l e R (s.setVm vm) m args below meth c T locs k n) (N : Fr Z.heap.size locs) (O : Ext Z.heap s.heap) : Ext Z.heap T.heap := by
  have hs := X.same
  refine ⟨Nat.le_trans O.1 hs.2.1, fun b cl hcl => ?_⟩
  obtain ⟨c', h1, h2, -, h4⟩ := hs.2.2.2.2.2 b cl (O.2 b cl hcl)
  have hb := (Array.getElem?_eq_some_iff.mp hcl).1
  have hsl : c'.slots = cl.slots := Array.ext_getElem? fun i => h4 i fun hm => absurd (N _ hm) (Nat.not_le.mpr hb)
  have hcc : c' = cl := by rw [h2, hsl]
  rw [← hcc]; exact h1
theorem Sit.here (S : Sit p l e R s m args below meth c Z EL own vm T h k n) : At T m c below := by
  obtain ⟨_, X, -⟩ := S; exact X.here
theorem Sit.warm (S : Sit p l e R s m args below meth c Z EL own vm T h k n) : Z.Warmed39 vm := by
  obtain ⟨_, -, -, q, -⟩ := S; exact q
theorem Sit.ch (S : Sit p l e R s m args below meth c Z EL own vm T h k n) : CHv Z EL vm h := by
  obtain ⟨_, -, -, -, -, -, q, -⟩ := S; exact q.1
theorem Sit.old (S : Sit p l e R s m args below meth c Z EL own vm T h k n) : Ext Z.heap h := by
  obtain ⟨_, X, rfl, -, -, -, -, N, O, -⟩ := S; exact old_ext X N O
theorem Sit.le (S : Sit p l e R s m args below meth c Z EL own vm T h k n) : Z.heap.size ≤ h.size := S.old.1
theorem Sit.mono (S : Sit p l e R s m args below meth c Z EL own vm T h k n) {k' n' : Nat} (hk : k ≤ k') (hn : n ≤ n') : Sit p l e R s m args below meth c Z EL own vm T h k' n' := by
  obtain ⟨locs, X, r⟩ := S
  exact ⟨locs, { X with same := X.same.mono hk hn }, r⟩
theorem Stp.refl (H : CHv Z EL vm h) : Stp Z EL vm h vm h [] := ⟨Keep.refl _ _, CHr.refl H⟩
theorem Stp.trans (A : Stp Z EL vm h vm' h' ws) (B : Stp Z EL vm' h' vm'' h'' ws') (q : ∀ x ∈ ws, x ∈ us) (q' : ∀ x ∈ ws', x ∈ us ∨ h.size ≤ x) : Stp Z EL vm h vm'' h'' us :=
  ⟨Keep.trans ⟨A.1.1, fun x c r z => A.1.2.1 x c r fun y => z (q x y), A.1.2.2⟩ B.1 q', A.2.trans B.2⟩
theorem Stp.mono (A : Stp Z EL vm h vm' h' ws) (q : ∀ x ∈ ws, x ∈ us) : Stp Z EL vm h vm' h' us := ⟨⟨A.1.1, fun x c r z => A.1.2.1 x c r fun y => z (q x y), A.1.2.2⟩, A.2⟩
theorem Stp.of_ext (E : Ext h h') (H : CHv Z EL vm h) : Stp Z EL vm h vm h' [] := ⟨(Keep.refl _ _).ext E, CHr.ext E H⟩
theorem Stp.of_wr {sl : Nat} {v : Value} (W : Wr h h' a sl v) (S : Safe Z EL vm h a) (H : CHv Z EL vm h) : Stp Z EL vm h vm h' [a] := ⟨Keep.of_wr W, CHr.wr W S H⟩
theorem Stp.of_keep (K : Keep h h' ws) (S : ∀ x ∈ ws, Safe Z EL vm h x) (H : CHv Z EL vm h) : Stp Z EL vm h vm h' ws := ⟨K, CHr.keep K S H⟩
theorem Stp.safe (A : Stp Z EL vm h vm' h' ws) (hx : x < h.size) (S : Safe Z EL vm h x) : Safe Z EL vm' h' x := A.2.safe hx S
theorem Stp.fld (A : Stp Z EL vm h vm' h' ws) {C f d : String} {v : Value} (F : Fld Z h a C f d v) (q : a ∉ ws) : Fld Z h' a C f d v := F.keep A.1 q
theorem Stp.exa (A : Stp Z EL vm h vm' h' ws) {C : String} (F : Exa Z h a C) : Exa Z h' a C := F.keep A.1
theorem Stp.arv (A : Stp Z EL vm h vm' h' ws) {kc : ClassId} {ty : FieldType} {z : Int32} {vs : List Value} {d : Value} (F : Arv Z h a kc ty z vs d) (q : a ∉ ws) : Arv Z h' a kc ty z vs d := F.keep A.1 q
theorem keep_mono (K : Keep h h' ws) (q : ∀ x ∈ ws, x ∈ us) : Keep h h' us := ⟨K.1, fun x c r z => K.2.1 x c r fun y => z (q x y), K.2.2⟩
theorem and255 (x : Int32) : ¬ nar .char ((x &&& (255 : Int32)).toUInt32.toUInt16.toUInt32.toInt32) < 0 ∧ ¬ (255 : Int32) < nar .char ((x &&& (255 : Int32)).toUInt32.toUInt16.toUInt32.toInt32) := by
  have e : nar .char ((x &&& (255 : Int32)).toUInt32.toUInt16.toUInt32.toInt32) = x &&& 255 := by
    rw [i2c_mask]; exact i2c_mask x
  rw [e]
  have h := c_and x 255 (by decide)
  have e1 : (255 : Int32).toInt = 255 := rfl
  have e0 : (0 : Int32).toInt = 0 := rfl
  exact ⟨fun q => by rw [Int32.lt_iff_toInt_lt, e0] at q; omega, fun q => by rw [Int32.lt_iff_toInt_lt, e1] at q; omega⟩
theorem safe0 : Safe Z [] vm h x := fun B => by obtain ⟨_, hp, -⟩ := B; exact nomatch hp
def Str (Z : State) (h : Heap) (x t : Addr) (cs : List Int32) : Prop := ∃ kb : ClassId, Exa Z h x ST ∧ Fld Z h x ST "value" "[B" (.ref t) ∧ Fld Z h x ST "coder" "B" (.int 0) ∧ Arv Z h t kb .byte (Int32.ofNat cs.length) ((cs.map fun c => c.toInt8.toInt32).map Value.int) (.int 0) ∧ (∀ c ∈ cs, ¬ c < 0 ∧ ¬ (255 : Int32) < c) ∧ cs.length ≤ 4000
theorem Str.exa {cs : List Int32} (F : Str Z h x t cs) : Exa Z h x ST := by obtain ⟨_, q, -⟩ := F; exact q
theorem Str.lt {cs : List Int32} (F : Str Z h x t cs) : x < h.size := F.exa.lt
theorem Str.ltB {cs : List Int32} (F : Str Z h x t cs) : t < h.size := by obtain ⟨_, -, -, -, q, -⟩ := F; exact q.lt
theorem Str.ext {cs : List Int32} (F : Str Z h x t cs) (E : Ext h h') : Str Z h' x t cs := by
  obtain ⟨kb, q1, q2, q3, q4, q5⟩ := F; exact ⟨kb, q1.ext E, q2.ext E, q3.ext E, q4.ext E, q5⟩
theorem Stp.str (A : Stp Z EL vm h vm' h' ws) {cs : List Int32} (F : Str Z h x t cs) (q : x ∉ ws) (r : t ∉ ws) : Str Z h' x t cs := by
  obtain ⟨kb, q1, q2, q3, q4, q5⟩ := F; exact ⟨kb, A.exa q1, A.fld q2 q, A.fld q3 q, A.arv q4 r, q5⟩
theorem Str.neB {cs : List Int32} {C : String} {n : Nat} (F : Str Z h x t cs) (E : Exa Z h a C) (w : (Jvm.Cond.instantiable C n).before a0 Z = true) : t ≠ a := by
  obtain ⟨_, -, -, -, q, -⟩ := F; exact (E.neArv q w).symm
theorem Str.ne {cs : List Int32} {C : String} (F : Str Z h x t cs) (E : Exa Z h a C) (q : C ≠ ST) : x ≠ a := (E.ne F.exa q).symm
theorem arr_neK {k1 k2 : ClassId} {t1 t2 : FieldType} {z1 z2 : Int32} {v1 v2 : List Value} {d1 d2 : Value} (A : Arv Z h a k1 t1 z1 v1 d1) (B : Arv Z h b k2 t2 z2 v2 d2) (q : t1 ≠ t2) : a ≠ b := fun e => by
  subst e
  obtain ⟨c1, ⟨p1, ⟨-, kA, r1, m1, s1⟩, -⟩, -⟩ := A
  obtain ⟨c2, ⟨p2, ⟨-, kB, r2, m2, s2⟩, -⟩, -⟩ := B
  cases p1.symm.trans p2
  cases r1.symm.trans r2
  exact q (by have := s1.symm.trans s2; injection this)
theorem Str.neV {cs : List Int32} {kc : ClassId} {ty : FieldType} {z : Int32} {vs : List Value} {d : Value} (F : Str Z h x t cs) (A : Arv Z h a kc ty z vs d) (q : ty ≠ .byte) : t ≠ a := by
  obtain ⟨_, -, -, -, r, -⟩ := F; exact arr_neK r A (Ne.symm q)
theorem Str.neX {cs : List Int32} {n : Nat} {kc : ClassId} {ty : FieldType} {z : Int32} {vs : List Value} {d : Value} (F : Str Z h x t cs) (A : Arv Z h a kc ty z vs d) (w : (Jvm.Cond.instantiable ST n).before a0 Z = true) : x ≠ a := F.exa.neArv A w
/-- Stepping laws. -/
theorem Sit.getF (hG : Cl p e below G) (S : Sit p l e R s m args below meth c Z EL own vm T h k n) (hx : p.tables.exec = Jvm.exec) {R0 O nm d host : String} {index : Nat} (w : (Jvm.Cond.fieldLink own index R0 nm d).before a0 Z = true ∨ (Jvm.Cond.fieldLinkNest own index R0 nm d host).before a0 Z = true) (via : Via Z R0 O nm d) {v : Value} (F : Fld Z h a O nm d v)
    {g : JFrame} (hg : g.method = m) {rest : List Value} (hs : g.stack = .ref a :: rest) (hd : decode c.code g.pc = .ok (.getfield index, 3)) (K : ∀ T', Sit p l e R s m args below meth c Z EL own vm T' h k n → G T' { g with pc := g.pc + 3, stack := v :: rest }) : G T g := by
  obtain ⟨locs, X, eT, hZ, hown, r⟩ := S
  obtain ⟨T', X', e', st⟩ := RoadKit.getF X hx hZ hown w via eT F hg hs hd
  exact hG.st st (K T' ⟨locs, X', e', hZ, hown, r⟩)
theorem Sit.getS (hG : Cl p e below G) (S : Sit p l e R s m args below meth c Z EL own vm T h k n) (hx : p.tables.exec = Jvm.exec) {R0 O nm d host : String} {index : Nat} (w : (Jvm.Cond.fieldLink own index R0 nm d).before a0 Z = true ∨ (Jvm.Cond.fieldLinkNest own index R0 nm d host).before a0 Z = true) (via : Via Z R0 O nm d) {v : Value} (F : Sta Z h O nm d v)
    {g : JFrame} (hg : g.method = m) (hd : decode c.code g.pc = .ok (.getstatic index, 3)) (K : ∀ T', Sit p l e R s m args below meth c Z EL own vm T' h k n → G T' { g with pc := g.pc + 3, stack := v :: g.stack }) : G T g := by
  obtain ⟨locs, X, eT, hZ, hown, r⟩ := S
  obtain ⟨T', X', e', st⟩ := RoadKit.getS2 X hx hZ hown w via eT F hg hd
  exact hG.st st (K T' ⟨locs, X', e', hZ, hown, r⟩)
theorem fr_one {locs : List Loc} {sl : Nat} (N : Fr Z.heap.size locs) (ga : Z.heap.size ≤ a) : Fr Z.heap.size (locs ++ [⟨a, sl⟩]) := N.app fun y hy => by cases List.mem_singleton.mp hy; exact ga
theorem Sit.putF (hG : Cl p e below G) (S : Sit p l e R s m args below meth c Z EL own vm T h k n) (hx : p.tables.exec = Jvm.exec) {R0 O nm d host C : String} {index kk : Nat} {ty : FieldType} (w : (Jvm.Cond.fieldLink own index R0 nm d).before a0 Z = true ∨ (Jvm.Cond.fieldLinkNest own index R0 nm d host).before a0 Z = true) (via : Via Z R0 O nm d) {v old : Value} (F : Fld Z h a O nm d old) (E : Exa Z h a C)
    (L : (Jvm.Cond.lays C O nm d).before a0 Z = true ∨ ((Jvm.Cond.laysFinal C O nm d).before a0 Z = true ∧ own = O ∧ meth.name = "<init>")) (wi : (Jvm.Cond.instantiable C kk).before a0 Z = true) (hty : parseFieldDescriptor d = some ty) (hn : narrow ty v = v) (hf : fits ty v = true) (ga : Z.heap.size ≤ a) (sf : Safe Z EL vm h a)
    {g : JFrame} (hg : g.method = m) {rest : List Value} (hs : g.stack = v :: .ref a :: rest) (hd : decode c.code g.pc = .ok (.putfield index, 3)) (K : ∀ T' h', Sit p l e R s m args below meth c Z EL own vm T' h' k n → Stp Z EL vm h vm h' [a] → Wr h h' a (RoadKit.slotOf Z O nm d) v → Fld Z h' a O nm d v → G T' { g with pc := g.pc + 3, stack := rest }) : G T g := by
  obtain ⟨locs, X, eT, hZ, hown, ⟨j, hS, hj⟩, C0, N, r⟩ := S
  obtain ⟨T', h', X', e', W, st⟩ := RoadKit.putF X hx hZ hown w via eT F E L wi hty hn hf hg hs hd
  have J := Stp.of_wr W sf C0.1
  exact hG.st st (K T' h' ⟨_, X', e', hZ, hown, ⟨j, hS, Nat.le_trans hj J.1.1⟩, C0.trans J.2, fr_one N ga, r⟩ J W (F.same W))
theorem Sit.newO (hG : Cl p e below G) (S : Sit p l e R s m args below meth c Z EL own vm T h k n) (hx : p.tables.exec = Jvm.exec) {C : String} {index nn : Nat} (w : (Jvm.Cond.classLink own index C).before a0 Z = true) (wi : (Jvm.Cond.instantiable C nn).before a0 Z = true) (wz : (Jvm.Cond.initialized C).before a0 Z = true)
    {g : JFrame} (hg : g.method = m) (hd : decode c.code g.pc = .ok (.new index, 3)) (hc : k + 1 ≤ R.cells) (hl : n + nn ≤ R.slots)
    (K : ∀ T' h' x, x = h.size → Sit p l e R s m args below meth c Z EL own vm T' h' (k + 1) (n + nn) → Stp Z EL vm h vm h' [] → Safe Z EL vm h' x → Exa Z h' x C → (∀ {O nm d : String} {ty : FieldType}, Laid Z a0 C O nm d → parseFieldDescriptor d = some ty → Fld Z h' x O nm d (defaultValue ty)) → G T' { g with pc := g.pc + 3, stack := .ref x :: g.stack }) : G T g := by
  obtain ⟨locs, X, eT, hZ, hown, ⟨j, hS, hj⟩, C0, r⟩ := S
  obtain ⟨T', h', X', e', E, A, D, -, st⟩ := RoadKit.newO X hx hZ hown w wi wz eT hg hd hc hl
  exact hG.st st (K T' h' _ rfl ⟨locs, X', e', hZ, hown, ⟨j, hS, Nat.le_trans hj E.1⟩, C0.trans (CHr.ext E C0.1), r⟩ (Stp.of_ext E C0.1) (Safe.ext E C0.1 (Safe.new (Nat.le_refl _))) A D)
theorem Sit.newP (hG : Cl p e below G) (S : Sit p l e R s m args below meth c Z EL own vm T h k n) (hx : p.tables.exec = Jvm.exec) {aty : ArrayType} (w : (Jvm.Cond.arrayClass (newarray.typeOf aty)).before a0 Z = true) {g : JFrame} (hg : g.method = m) (hd : decode c.code g.pc = .ok (.newarray aty, 2)) {z : Int32} {rest : List Value} (hs : g.stack = .int z :: rest)
    (hz : ¬ z < 0) {cap : Nat} (hcap : z.toNatClampNeg ≤ cap) (hb : cap * 8 ≤ 536870912) (hc : k + 1 ≤ R.cells) (hl : n + cap ≤ R.slots)
    (K : ∀ T' h' x cA, x = h.size → Sit p l e R s m args below meth c Z EL own vm T' h' (k + 1) (n + cap) → Stp Z EL vm h vm h' [] → Safe Z EL vm h' x → Arv Z h' x cA (newarray.typeOf aty) z (List.replicate z.toNatClampNeg (defaultValue (newarray.typeOf aty))) (defaultValue (newarray.typeOf aty)) → G T' { g with pc := g.pc + 2, stack := .ref x :: rest }) : G T g := by
  obtain ⟨locs, X, eT, hZ, hown, ⟨j, hS, hj⟩, C0, r⟩ := S
  obtain ⟨T', h', cA, X', e', E, A, st⟩ := RoadKit.newP X hx hZ w eT hg hd hs hz hcap hb hc hl
  exact hG.st st (K T' h' _ cA rfl ⟨locs, X', e', hZ, hown, ⟨j, hS, Nat.le_trans hj E.1⟩, C0.trans (CHr.ext E C0.1), r⟩ (Stp.of_ext E C0.1) (Safe.ext E C0.1 (Safe.new (Nat.le_refl _))) ((Arv.new A hz).pad (pad_rep [] _ _)))
theorem Sit.stC (hG : Cl p e below G) (S : Sit p l e R s m args below meth c Z EL own vm T h k n) (hx : p.tables.exec = Jvm.exec) {kc : ClassId} {z : Int32} {vs : List Value} {d : Value} (V : Arv Z h a kc .char z vs d) (ga : Z.heap.size ≤ a) {j y : Int32} (hj : ¬ j < 0 ∧ j < z) (i : Nat) (hi : j.toNatClampNeg = i) (hil : i < vs.length)
    {g : JFrame} (hg : g.method = m) {rest : List Value} (hs : g.stack = .int y :: .int j :: .ref a :: rest) (hd : decode c.code g.pc = .ok (.castore, 1)) (K : ∀ T' h', Sit p l e R s m args below meth c Z EL own vm T' h' k n → Stp Z EL vm h vm h' [a] → Arv Z h' a kc .char z (vs.set i (.int (nar .char y))) d → G T' { g with pc := g.pc + 1, stack := rest }) : G T g := by
  obtain ⟨locs, X, eT, hZ, hown, ⟨jj, hS, hjj⟩, C0, N, r⟩ := S
  obtain ⟨cl, A, q1, q2, q3, q4, q5⟩ := V
  obtain ⟨T', h', X', e', W, st⟩ := RoadKit.stC X hx hZ eT A (inb_of q2 hj) hg hs hd
  have J := Stp.of_wr W (Safe.arr hZ.alike A (by decide)) C0.1
  exact hG.st st (K T' h' ⟨_, X', e', hZ, hown, ⟨jj, hS, Nat.le_trans hjj J.1.1⟩, C0.trans J.2, fr_one N ga, r⟩ J (Arv.set A q1 q2 q3 q4 q5 (fits_nar_char _) W i hi hil))
theorem Sit.stB (hG : Cl p e below G) (S : Sit p l e R s m args below meth c Z EL own vm T h k n) (hx : p.tables.exec = Jvm.exec) {kc : ClassId} {z : Int32} {vs : List Value} {d : Value} (V : Arv Z h a kc .byte z vs d) (ga : Z.heap.size ≤ a) (sf : Safe Z EL vm h a) {j y : Int32} (hj : ¬ j < 0 ∧ j < z) (i : Nat) (hi : j.toNatClampNeg = i) (hil : i < vs.length)
    {g : JFrame} (hg : g.method = m) {rest : List Value} (hs : g.stack = .int y :: .int j :: .ref a :: rest) (hd : decode c.code g.pc = .ok (.bastore, 1)) (K : ∀ T' h', Sit p l e R s m args below meth c Z EL own vm T' h' k n → Stp Z EL vm h vm h' [a] → Arv Z h' a kc .byte z (vs.set i (.int (nar .byte y))) d → G T' { g with pc := g.pc + 1, stack := rest }) : G T g := by
  obtain ⟨locs, X, eT, hZ, hown, ⟨jj, hS, hjj⟩, C0, N, r⟩ := S
  obtain ⟨cl, A, q1, q2, q3, q4, q5⟩ := V
  obtain ⟨T', h', X', e', W, st⟩ := RoadKit.stB X hx hZ eT A (inb_of q2 hj) hg hs hd
  have J := Stp.of_wr W sf C0.1
  exact hG.st st (K T' h' ⟨_, X', e', hZ, hown, ⟨jj, hS, Nat.le_trans hjj J.1.1⟩, C0.trans J.2, fr_one N ga, r⟩ J (Arv.set A q1 q2 q3 q4 q5 (fits_nar_byte _) W i hi hil))
theorem Sit.caload (hG : Cl p e below G) (S : Sit p l e R s m args below meth c Z EL own vm T h k n) (hx : p.tables.exec = Jvm.exec) {kc : ClassId} {z : Int32} {vs : List Value} {d : Value} (V : Arv Z h a kc .char z vs d) {j : Int32} (hj : ¬ j < 0 ∧ j < z) {v : Value} (hv : vs.getD j.toNatClampNeg d = v)
    {g : JFrame} (hg : g.method = m) {rest : List Value} (hs : g.stack = .int j :: .ref a :: rest) (hd : decode c.code g.pc = .ok (.caload, 1)) (q : G T { g with pc := g.pc + 1, stack := v :: rest }) : G T g := by
  obtain ⟨locs, X, eT, hZ, hown, r⟩ := S
  obtain ⟨cl, A, q1, q2, q3, q4, q5⟩ := V
  exact hG.st (fun t q => X.caload hx (by rw [eT]; exact A.1) (State.isArrayOf_alike hZ.alike A.2.1) A.2.2 (inb_of q2 hj) (q4.at (inb_of q2 hj) hv) hg hs hd t q) q
theorem Sit.aaload (hG : Cl p e below G) (S : Sit p l e R s m args below meth c Z EL own vm T h k n) (hx : p.tables.exec = Jvm.exec) {kc : ClassId} {ty : FieldType} {z : Int32} {vs : List Value} {d : Value} (V : Arv Z h a kc ty z vs d) (hty : ty.isReference = true) {j : Int32} (hj : ¬ j < 0 ∧ j < z) {v : Value} (hv : vs.getD j.toNatClampNeg d = v)
    {g : JFrame} (hg : g.method = m) {rest : List Value} (hs : g.stack = .int j :: .ref a :: rest) (hd : decode c.code g.pc = .ok (.aaload, 1)) (q : G T { g with pc := g.pc + 1, stack := v :: rest }) : G T g := by
  obtain ⟨locs, X, eT, hZ, hown, r⟩ := S
  obtain ⟨cl, A, q1, q2, q3, q4, q5⟩ := V
  exact hG.st (fun t q => X.aaload hx (by rw [eT]; exact A.1) (State.isArrayOf_alike hZ.alike A.2.1) hty A.2.2 (inb_of q2 hj) (q4.at (inb_of q2 hj) hv) hg hs hd t q) q
theorem Sit.arraylength (hG : Cl p e below G) (S : Sit p l e R s m args below meth c Z EL own vm T h k n) (hx : p.tables.exec = Jvm.exec) {kc : ClassId} {ty : FieldType} {z : Int32} {vs : List Value} {d : Value} (V : Arv Z h a kc ty z vs d)
    {g : JFrame} (hg : g.method = m) {rest : List Value} (hs : g.stack = .ref a :: rest) (hd : decode c.code g.pc = .ok (.arraylength, 1)) (q : G T { g with pc := g.pc + 1, stack := .int z :: rest }) : G T g := by
  obtain ⟨locs, X, eT, hZ, hown, r⟩ := S
  obtain ⟨cl, A, q1, q2, q3, q4, q5⟩ := V
  exact hG.st (fun t q => X.arraylength hx (by rw [eT]; exact A.1) (State.isArrayOf_alike hZ.alike A.2.1) hg hs hd t (by rw [len_of q2 q3]; exact q)) q
theorem Sit.acmp (hG : Cl p e below G) (S : Sit p l e R s m args below meth c Z EL own vm T h k n) (hx : p.tables.exec = Jvm.exec) {g : JFrame} (hg : g.method = m) {cd : ACond} {v w : Value} (h1 : v.isRef = true) (h2 : w.isRef = true) {rest : List Value} {o : Int} {pc0 pc' : Nat} {same : Bool} (hpc : g.pc = pc0)
    (hd : decode c.code g.pc = .ok (.if_acmp cd o, 3)) (hs : g.stack = w :: v :: rest) (hq : decide (v = w) = same) (ho : 0 ≤ (pc0 : Int) + o) (hp : pc' = if acV cd same = true then ((pc0 : Int) + o).toNat else pc0 + 3) (q : G T { g with pc := pc', stack := rest }) : G T g := by
  obtain ⟨_, X, -⟩ := S
  exact hG.st (fun t r => RoadKit.acmp X hx hg h1 h2 hpc hd hs hq ho hp r) q
theorem Sit.instNull (hG : Cl p e below G) (S : Sit p l e R s m args below meth c Z EL own vm T h k n) (hx : p.tables.exec = Jvm.exec) {g : JFrame} (hg : g.method = m) {rest : List Value} (hs : g.stack = .null :: rest) {i : Nat} (hd : decode c.code g.pc = .ok (.instanceof i, 3)) (q : G T { g with pc := g.pc + 3, stack := .int 0 :: rest }) : G T g := by
  obtain ⟨_, X, -⟩ := S
  exact hG.st (fun t r => X.instanceofNull hx hg hs hd t r) q
theorem Sit.castNull (hG : Cl p e below G) (S : Sit p l e R s m args below meth c Z EL own vm T h k n) (hx : p.tables.exec = Jvm.exec) {g : JFrame} (hg : g.method = m) {rest : List Value} (hs : g.stack = .null :: rest) {i : Nat} (hd : decode c.code g.pc = .ok (.checkcast i, 3)) (q : G T { g with pc := g.pc + 3 }) : G T g := by
  obtain ⟨_, X, -⟩ := S
  exact hG.st (fun t r => X.checkcastNull hx hg hs hd t r) q
theorem Sit.ldcI (hG : Cl p e below G) (S : Sit p l e R s m args below meth c Z EL own vm T h k n) (hx : p.tables.exec = Jvm.exec) {index : Nat} {z : Int32} (w : (Jvm.Cond.constant own index z).before a0 Z = true) {g : JFrame} (hg : g.method = m) (hd : decode c.code g.pc = .ok (.ldc index, 2)) (q : G T { g with pc := g.pc + 2, stack := .int z :: g.stack }) : G T g := by
  obtain ⟨_, X, _, hZ, hown, -⟩ := S
  exact hG.st (fun t r => X.ldcInt hx hown (mvT hZ w) hg hd t r) q
theorem Sit.initO (hG : Cl p e below G) (S : Sit p l e R s m args below meth c Z EL own vm T h k n) (hx : p.tables.exec = Jvm.exec) {idx : Nat} (w1 : (Jvm.Cond.methodLink own idx Lib.objectInit).before a0 Z = true) (w2 : (Jvm.Cond.instanceMethod Lib.objectInit).before a0 Z = true) (w3 : (Jvm.Cond.code Lib.objectInit ⟨#[0xb1]⟩ 1 none).before a0 Z = true)
    {g : JFrame} (hg : g.method = m) (hsize : g.locals.size = c.maxLocals) {rest : List Value} (hs : g.stack = .ref a :: rest) (hd : decode c.code g.pc = .ok (.invokespecial idx, 3)) (hf : 1 ≤ R.frames) {W : Nat} (hW : 2 * g.monitorRoom + (rest.map fun v => v.category).sum ≤ W) (hl : W + 12 ≤ R.locals)
    (K : ∀ T', Sit p l e R s m args below meth c Z EL own vm T' h k n → G T' { g with pc := g.pc + 3, stack := rest }) : G T g := by
  obtain ⟨locs, X, eT, hZ, hown, r⟩ := S
  obtain ⟨T', X', e', st⟩ := RoadKit.initO X hx hZ hown w1 w2 w3 eT hg hsize hs hd hf hW hl
  exact hG.st st (K T' ⟨locs, X', e', hZ, hown, r⟩)
theorem Sit.castY (hG : Cl p e below G) (S : Sit p l e R s m args below meth c Z EL own vm T h k n) (hx : p.tables.exec = Jvm.exec) {K0 : String} {index : Nat} (w : (Jvm.Cond.classLink own index K0).before a0 Z = true) (F : Ins Z h a K0 true)
    {g : JFrame} (hg : g.method = m) {rest : List Value} (hs : g.stack = .ref a :: rest) (hd : decode c.code g.pc = .ok (.checkcast index, 3)) (K : ∀ T', Sit p l e R s m args below meth c Z EL own vm T' h k n → G T' { g with pc := g.pc + 3 }) : G T g := by
  obtain ⟨locs, X, eT, hZ, hown, r⟩ := S
  obtain ⟨T', X', e', st⟩ := RoadKit.castY X hx hZ hown w eT F hg hs hd
  exact hG.st st (K T' ⟨locs, X', e', hZ, hown, r⟩)
theorem Sit.cloneA (hG : Cl p e below G) (S : Sit p l e R s m args below meth c Z EL own vm T h k n) (hx : p.tables.exec = Jvm.exec) {ad : String} {index : Nat}
    (w1 : (Jvm.Cond.methodLink own index ⟨ad, "clone", "()Ljava/lang/Object;"⟩).before a0 Z = true) (w2 : (Jvm.Cond.sameMethod ad "java/lang/Object" "clone" "()Ljava/lang/Object;").before a0 Z = true) (w3 : (Jvm.Cond.native ⟨"java/lang/Object", "clone", "()Ljava/lang/Object;"⟩).before a0 Z = true)
    (w4 : (Jvm.Cond.instanceMethod ⟨"java/lang/Object", "clone", "()Ljava/lang/Object;"⟩).before a0 Z = true) (w5 : (Jvm.Cond.selects ad ⟨ad, "clone", "()Ljava/lang/Object;"⟩ ⟨"java/lang/Object", "clone", "()Ljava/lang/Object;"⟩).before a0 Z = true) (w6 : (Jvm.Cond.castable ad "java/lang/Cloneable").before a0 Z = true)
    {kc : ClassId} {ty : FieldType} {z : Int32} {vs : List Value} {d : Value} (F : Arv Z h a kc ty z vs d) (E : Exa Z h a ad) {g : JFrame} (hg : g.method = m) (hsize : g.locals.size = c.maxLocals) {rest : List Value} (hst : g.stack = .ref a :: rest) (hd : decode c.code g.pc = .ok (.invokevirtual index, 3))
    (hf : 1 ≤ R.frames) {W cap : Nat} (hW : 2 * g.monitorRoom + (rest.map fun v => v.category).sum ≤ W) (hl : W + 14 ≤ R.locals) (hcap : z.toNatClampNeg ≤ cap) (hc : k + 1 ≤ R.cells) (hsl : n + cap ≤ R.slots)
    (K : ∀ T' h' x, x = h.size → Sit p l e R s m args below meth c Z EL own vm T' h' (k + 1) (n + cap) → Stp Z EL vm h vm h' [] → Arv Z h' x kc ty z vs d → Exa Z h' x ad → G T' { g with pc := g.pc + 3, stack := .ref x :: rest }) : G T g := by
  obtain ⟨locs, X, eT, hZ, hown, ⟨j, hS, hj⟩, C0, r⟩ := S
  obtain ⟨T', h', X', e', E', A, D, st⟩ := RoadKit.cloneH X hx hZ hown w1 w2 w3 w4 w5 w6 eT F.arh E hg hsize hst hd hf hW hl hcap hc hsl
  exact hG.st st (K T' h' _ rfl ⟨locs, X', e', hZ, hown, ⟨j, hS, Nat.le_trans hj E'.1⟩, C0.trans (CHr.ext E' C0.1), r⟩ (Stp.of_ext E' C0.1) A D)
theorem afterN {locs L : List Loc} {U : State} {k' n' : Nat} (eT : T.heap = h) (hZ : Z.Warmed39 vm) (hown : vm.findClass own = some m.cls) (hS : ∃ j, s.Since vm j ∧ j ≤ h.size) (C : CHr Z EL s.vm s.heap vm h) (N : Fr Z.heap.size locs) (O : Ext Z.heap s.heap) (hN : Nar s vm)
    (X' : Stand p l e R (s.setVm vm) m args below meth c U (locs ++ L) k' n') (g2 : h.size ≤ U.heap.size) (N' : Fr Z.heap.size L) (C' : CHr Z EL vm h vm U.heap) : Sit p l e R s m args below meth c Z EL own vm U U.heap k' n' := by
  obtain ⟨j, hS, hj⟩ := hS
  exact ⟨_, X', rfl, hZ, hown, ⟨j, hS, Nat.le_trans hj g2⟩, C.trans C', N.app N', O, hN⟩
/-- calls by contract -/
theorem Sit.callS (hG : Cl p e below G) (S : Sit p l e R s m args below meth c Z EL own vm T h k n) (hx : p.tables.exec = Jvm.exec) {index : Nat} {y : MethodName} {bytes : ByteArray} {maxL : Nat} {ret : Option FieldType} {rm : Room} {as : List Value} {Q : Option Value → Heap → Prop}
    (wl : (Jvm.Cond.methodLink own index y).before a0 Z = true) (wt : (Jvm.Cond.static y).before a0 Z = true) (wz : (Jvm.Cond.initialized y.cls).before a0 Z = true) (wc : (Jvm.Cond.code y bytes maxL ret).before a0 Z = true) (hy : y.cls ≠ "java/lang/invoke/MethodHandle" ∧ y.cls ≠ "java/lang/invoke/VarHandle")
    (hM : Con l Z EL y bytes maxL ret [] rm as.toArray h Q) {ps : List FieldType} {r : Option FieldType} (hd0 : parseMethodDescriptor y.desc = some ⟨ps, r⟩) (hlen : as.length = ps.length)
    {g : JFrame} (hg : g.method = m) (hsize : g.locals.size = c.maxLocals) {rest : List Value} (hs : g.stack = as.reverse ++ rest) {W : Nat} (hW : 2 * g.monitorRoom + (rest.map fun v => v.category).sum ≤ W) (hd : decode c.code g.pc = .ok (.invokestatic index, 3))
    (hf : rm.frames + 1 ≤ R.frames) (hl : W + (maxL + 11) + rm.locals ≤ R.locals) (hc : k + rm.cells ≤ R.cells) (hsl : n + rm.slots ≤ R.slots)
    (hQ : ∀ v h', Q v h' → Keep h h' ws) (hsf : ∀ x ∈ ws, Safe Z EL vm h x)
    (K : ∀ v vm' T' h', Sit p l e R s m args below meth c Z EL own vm' T' h' (k + rm.cells) (n + rm.slots) → CHr Z EL vm h vm' h' → Q v h' → G T' { g with pc := g.pc + 3, stack := v.toList ++ rest }) : G T g := by
  obtain ⟨locs, X, eT, hZ, hown, hS, C, N, O, hn⟩ := S
  obtain ⟨v, vm1, ⟨U, L', k', n'⟩, -, X', ⟨L, ⟨hq, hF⟩, q1, q2, q3⟩, st⟩ := Jvm.LawKit.callS X hx hown (mvT hZ wl) (mvT hZ wt) (mvT hZ wz) (mvT hZ wc) hy (backOf (W := W) (Q := fun v h L => Q v h ∧ Fr Z.heap.size L) hM hZ wc wz hf hl) hg hsize (lenOf hd0 hlen) hs hW hd (fun _ _ => ⟨rfl, eT, hc, hsl⟩)
  dsimp only [Pt.U, Pt.locs, Pt.cells, Pt.slots] at X' hq q1 q2 q3 st
  subst q1 q2 q3
  have hk := hQ v _ hq
  have hC : CHr Z EL vm h vm U.heap := CHr.keep hk hsf C.1
  exact hG.st (fun t q => st t q) (K v vm U U.heap (afterN eT hZ hown hS C N O hn X' hk.1 hF hC) hC hq)
theorem Sit.callV (hG : Cl p e below G) (S : Sit p l e R s m args below meth c Z EL own vm T h k n) (hx : p.tables.exec = Jvm.exec) {C : String} {index : Nat} {y : MethodName} {bytes : ByteArray} {maxL : Nat} {ret : Option FieldType} {rm : Room} {as : List Value} {Q : Option Value → Heap → Prop}
    (wl : (Jvm.Cond.methodLink own index y).before a0 Z = true) (wd : (Jvm.Cond.declares y).before a0 Z = true) (wsl : (Jvm.Cond.selects C y y).before a0 Z = true) (wim : (Jvm.Cond.instanceMethod y).before a0 Z = true) (wz : (Jvm.Cond.initialized y.cls).before a0 Z = true) (wc : (Jvm.Cond.code y bytes maxL ret).before a0 Z = true) (hy : y.cls ≠ "java/lang/invoke/MethodHandle" ∧ y.cls ≠ "java/lang/invoke/VarHandle")
    (E : Exa Z h b C) (hM : Con l Z EL y bytes maxL ret [] rm (.ref b :: as).toArray h Q) {ps : List FieldType} {r : Option FieldType} (hd0 : parseMethodDescriptor y.desc = some ⟨ps, r⟩) (hlen : as.length = ps.length)
    {g : JFrame} (hg : g.method = m) (hsize : g.locals.size = c.maxLocals) {rest : List Value} (hs : g.stack = as.reverse ++ .ref b :: rest) {W : Nat} (hW : 2 * g.monitorRoom + (rest.map fun v => v.category).sum ≤ W) (hd : decode c.code g.pc = .ok (.invokevirtual index, 3))
    (hf : rm.frames + 1 ≤ R.frames) (hl : W + (maxL + 11) + rm.locals ≤ R.locals) (hc : k + rm.cells ≤ R.cells) (hsl : n + rm.slots ≤ R.slots)
    (hQ : ∀ v h', Q v h' → Keep h h' ws) (hsf : ∀ x ∈ ws, Safe Z EL vm h x)
    (K : ∀ v vm' T' h', Sit p l e R s m args below meth c Z EL own vm' T' h' (k + rm.cells) (n + rm.slots) → CHr Z EL vm h vm' h' → Q v h' → G T' { g with pc := g.pc + 3, stack := v.toList ++ rest }) : G T g := by
  obtain ⟨locs, X, eT, hZ, hown, hS, C, N, O, hn⟩ := S
  obtain ⟨cB, kB, i1, -, i2⟩ := isOf (s := s.setVm vm) hZ eT E
  obtain ⟨v, vm1, ⟨U, L', k', n'⟩, -, X', ⟨L, ⟨hq, hF⟩, q1, q2, q3⟩, st⟩ := X.virtualBack hx (y := y) (z := y) hown (mvT hZ wl) (mvT hZ wd) (notFace_of_selects (args := #[]) (mvT hZ wsl)) (mvT hZ wsl) (mvT hZ wim) hy (backOf (W := W) (Q := fun v h L => Q v h ∧ Fr Z.heap.size L) hM hZ wc wz hf hl) i1 i2 hg hsize (Steps.refl _) (argsL := as) (lenOf hd0 hlen) hs hW hd (fun _ _ => ⟨rfl, eT, hc, hsl⟩)
  dsimp only [Pt.U, Pt.locs, Pt.cells, Pt.slots] at X' hq q1 q2 q3 st
  subst q1 q2 q3
  have hk := hQ v _ hq
  have hC : CHr Z EL vm h vm U.heap := CHr.keep hk hsf C.1
  exact hG.st (fun t q => st.trans q) (K v vm U U.heap (afterN eT hZ hown hS C N O hn X' hk.1 hF hC) hC hq)
theorem Sit.callI (hG : Cl p e below G) (S : Sit p l e R s m args below meth c Z EL own vm T h k n) (hx : p.tables.exec = Jvm.exec) {index : Nat} {y : MethodName} (hy1 : y.name = "<init>") {bytes : ByteArray} {maxL : Nat} {rm : Room} {as : List Value} {Q : Option Value → Heap → Prop}
    (wl : (Jvm.Cond.methodLink own index y).before a0 Z = true) (wim : (Jvm.Cond.instanceMethod y).before a0 Z = true) (wz : (Jvm.Cond.initialized y.cls).before a0 Z = true) (wc : (Jvm.Cond.code y bytes maxL none).before a0 Z = true) (hy : y.cls ≠ "java/lang/invoke/MethodHandle" ∧ y.cls ≠ "java/lang/invoke/VarHandle")
    (hM : Con l Z EL y bytes maxL none [] rm (.ref b :: as).toArray h Q) {ps : List FieldType} {r : Option FieldType} (hd0 : parseMethodDescriptor y.desc = some ⟨ps, r⟩) (hlen : as.length = ps.length)
    {g : JFrame} (hg : g.method = m) (hsize : g.locals.size = c.maxLocals) {rest : List Value} (hs : g.stack = as.reverse ++ .ref b :: rest) {W : Nat} (hW : 2 * g.monitorRoom + (rest.map fun v => v.category).sum ≤ W) (hd : decode c.code g.pc = .ok (.invokespecial index, 3))
    (hf : rm.frames + 1 ≤ R.frames) (hl : W + (maxL + 11) + rm.locals ≤ R.locals) (hc : k + rm.cells ≤ R.cells) (hsl : n + rm.slots ≤ R.slots)
    (hQ : ∀ v h', Q v h' → Keep h h' ws) (hsf : ∀ x ∈ ws, Safe Z EL vm h x)
    (K : ∀ v vm' T' h', Sit p l e R s m args below meth c Z EL own vm' T' h' (k + rm.cells) (n + rm.slots) → CHr Z EL vm h vm' h' → Q v h' → G T' { g with pc := g.pc + 3, stack := v.toList ++ rest }) : G T g := by
  obtain ⟨locs, X, eT, hZ, hown, hS, C, N, O, hn⟩ := S
  obtain ⟨v, vm1, ⟨U, L', k', n'⟩, -, X', ⟨L, ⟨hq, hF⟩, q1, q2, q3⟩, st⟩ := X.specialBack hx (y := y) hy1 hown (mvT hZ wl) (mvT hZ wim) (mvT hZ wc) hy (backOf (W := W) (Q := fun v h L => Q v h ∧ Fr Z.heap.size L) hM hZ wc wz hf hl) hg hsize (Steps.refl _) (a := b) (argsL := as) (lenOf hd0 hlen) hs hW hd (fun _ _ => ⟨rfl, eT, hc, hsl⟩)
  dsimp only [Pt.U, Pt.locs, Pt.cells, Pt.slots] at X' hq q1 q2 q3 st
  subst q1 q2 q3
  have hk := hQ v _ hq
  have hC : CHr Z EL vm h vm U.heap := CHr.keep hk hsf C.1
  exact hG.st (fun t q => st.trans q) (K v vm U U.heap (afterN eT hZ hown hS C N O hn X' hk.1 hF hC) hC hq)
theorem Sit.retN {t : FieldType} {Q : Option Value → Heap → Prop} (hR : Rt p l e R s m args below meth c Z EL own Q G) (S : Sit p l e R s m args below meth c Z EL own vm T h k n) (hx : p.tables.exec = Jvm.exec) (hret : meth.sig.returnType = some t) (ht : t = .boolean ∨ t = .byte ∨ t = .char ∨ t = .short) {pc : Nat} {Ls : Array Slot} {z : Int32} {rest : List Value} (hd : decode c.code pc = .ok (.ireturn, 1)) (hk : k ≤ R.cells) (hn : n ≤ R.slots) (hQ : Q (some (.int (nar t z))) h) : G T (mkF m pc Ls (.int z :: rest)) :=
  hR vm T h k n _ _ S hk hn (fun q => by rw [hret] at q; cases q) hQ (fun fs hr => by obtain ⟨_, X, -⟩ := S; exact RoadKit.retN X hx hret ht hd hr)
theorem Sit.retO {t : FieldType} {i : Instr} {Q : Option Value → Heap → Prop} (hR : Rt p l e R s m args below meth c Z EL own Q G) (S : Sit p l e R s m args below meth c Z EL own vm T h k n) (hx : p.tables.exec = Jvm.exec) (hret : meth.sig.returnType = some t) {pc : Nat} {Ls : Array Slot} {w : Value} {rest : List Value} (hnw : narrow t w = w)
    (hi : (i = .ireturn ∧ (t = .int ∨ t = .boolean ∨ t = .byte ∨ t = .char ∨ t = .short) ∧ ∃ z, w = .int z) ∨ (i = .lreturn ∧ t = .long ∧ ∃ z, w = .long z) ∨ (i = .dreturn ∧ t = .double ∧ ∃ z, w = .double z) ∨ (i = .freturn ∧ t = .float ∧ ∃ z, w = .float z) ∨ (i = .areturn ∧ t.isReference = true ∧ w.isRef = true))
    (hd : decode c.code pc = .ok (i, 1)) (hk : k ≤ R.cells) (hn : n ≤ R.slots) (hQ : Q (some w) h) : G T (mkF m pc Ls (w :: rest)) :=
  hR vm T h k n _ _ S hk hn (fun q => by rw [hret] at q; cases q) hQ (fun fs hr => by obtain ⟨_, X, -⟩ := S; exact RoadKit.retOut X hx hret hnw hi hd hr)
theorem Sit.ret0 {Q : Option Value → Heap → Prop} (hR : Rt p l e R s m args below meth c Z EL own Q G) (S : Sit p l e R s m args below meth c Z EL own vm T h k n) (hx : p.tables.exec = Jvm.exec) (hret : meth.sig.returnType = none) {pc : Nat} {Ls : Array Slot} (hd : decode c.code pc = .ok (.return_, 1)) (hk : k ≤ R.cells) (hn : n ≤ R.slots) (hQ : Q none h) : G T (mkF m pc Ls []) :=
  hR vm T h k n _ _ S hk hn (fun q => rfl) hQ (fun fs hr => by obtain ⟨_, X, -⟩ := S; exact X.returnOut hx hret hd hr)
theorem Con.of {y : MethodName} {bytes : ByteArray} {maxL : Nat} {ret : Option FieldType} {cw : List Jvm.Cond} {rm : Room} {as : Array Value} {Q : Option Value → Heap → Prop} (hp : plainFor y = true) (hEL0 : EL = []) (hO : Ext Z.heap h)
    (body : ∀ {p : Program} {e : Env} {s : State} {m : MethodId} {below : List Frame} {meth : Method} {c : Code} {T : State} {G : State → JFrame → Prop} {vm : Vm}, p.tables.exec = Jvm.exec → c.code = bytes → c.maxLocals = maxL → meth.sig.returnType = ret → meth.name = y.name → Cl p e below G → Rt p l e rm s m as below meth c Z EL y.cls Q G → Sit p l e rm s m as below meth c Z EL y.cls vm T h 0 0 → G T (entryFrame m as maxL)) :
    Con l Z EL y bytes maxL ret cw rm as h Q := by
  refine MetFree.of_bodySF hp hisR ?_
  intro p e s m args below meth c s₁ Bd hml0 hP hK
  obtain ⟨rfl, hZ, rfl⟩ := hP
  have hC : CHv Z EL s.vm s.heap := hEL0 ▸ fun _ q => nomatch q
  have X0 : Stand p l e rm s m args below meth c s₁ [] 0 0 := Stand.of_body Bd
  have e0 : s₁.heap = s.heap := by rw [Bd.state]; rfl
  have hlk : meth.locks = false := Bd.notSynchronized
  have hX : Stand p l e rm (s.setVm s.vm) m args below meth c s₁ [] 0 0 := by rw [State.setVm_self]; exact X0
  refine body (G := fun T g => ∃ s₂ o, Steps p.tables e below (T.setTop g) s₂ ∧ s₂.status = .running ∧ Ended s₂ below o ∧ ∃ v L, o = .returned v ∧ (Q v s₂.heap ∧ Fr Z.heap.size L) ∧ FrameEnd s o s₂ L rm.cells rm.slots) (vm := s.vm) Bd.exec Bd.bytes hml0 Bd.returns (name_of_methodNamed Bd.named Bd.method).1 (fun T T' g g' f ⟨s₂, o, st, r⟩ => ⟨s₂, o, f _ st, r⟩) ?_
    ⟨[], hX, e0, hZ, findClass_of_methodNamed Bd.named, ⟨_, (State.WarmedH.refl s).since _, Nat.le_refl _⟩, CHr.refl hC, Fr.nil _, hO, rfl⟩
  intro vm T h k n v g S hk hn hv hQ hst
  obtain ⟨locs, X, rfl, hZ', hown', ⟨j, hS, hj⟩, C0, N, O, hN⟩ := S
  obtain rfl : vm = s.vm := hN
  rw [State.setVm_self] at X
  obtain ⟨fs, hr, hrun, hended, hW, hsame⟩ := X.leave hv hlk
  exact ⟨_, _, hst fs hr, hrun, hended, v, locs, rfl, ⟨hQ, N⟩, ⟨_, rfl⟩, hW, hsame.mono hk hn⟩
end L
end Jvm.Pilot.@@N@@.Own
namespace Jvm.Pilot.@@N@@.Own
open Jvm Jvm.ClassFile Sem Op Lib Jvm.Free Jvm.Stand Jvm.LawKit Jvm.RoadKit
section L2
variable {p : Program} {l : Launch} {e : Env} {R : Room} {s : State} {m : MethodId} {args : Array Value} {below : List Frame} {meth : Method} {c : Code} {Z : State} {EL : List (String × Nat)} {own : String} {a0 : Array Value} {vm vm' vm'' : Vm} {T T' : State} {h h' h'' : Heap} {k n : Nat} {G : State → JFrame → Prop} {ws ws' us : List Addr} {x a b t : Addr}
/-- COMPACT_STRINGS is on -/
def Cmp (Z : State) : Prop := ∃ z : Int32, Sta Z Z.heap ST "COMPACT_STRINGS" "Z" (.int z) ∧ ¬ z = 0
def Sio (Z : State) : Prop := ∃ fm : Value, Sta Z Z.heap "jdk/internal/util/Preconditions" "SIOOBE_FORMATTER" "Ljava/util/function/BiFunction;" fm ∧ fm.isRef = true
theorem up (cs : List Int32) (h : ∀ c ∈ cs, ¬ c < 0 ∧ ¬ (255 : Int32) < c) : ∀ c ∈ cs, ¬ c < 0 ∧ ¬ (65535 : Int32) < c := fun c hc => ⟨(h c hc).1, fun q => (h c hc).2 (by rw [Int32.lt_iff_toInt_lt] at q ⊢; have e1 : (65535 : Int32).toInt = 65535 := rfl; have e2 : (255 : Int32).toInt = 255 := rfl; omega)⟩
/-- a pure virtual call paid by a Back -/
theorem Sit.pureV (hG : Cl p e below G) (S : Sit p l e R s m args below meth c Z EL own vm T h k n) (hx : p.tables.exec = Jvm.exec) {C : String} {index : Nat} {y : MethodName} {as : List Value} {Q : Option Value → Prop}
    (wl : (Jvm.Cond.methodLink own index y).before a0 Z = true) (wd : (Jvm.Cond.declares y).before a0 Z = true) (wsl : (Jvm.Cond.selects C y y).before a0 Z = true) (wim : (Jvm.Cond.instanceMethod y).before a0 Z = true) (hy : y.cls ≠ "java/lang/invoke/MethodHandle" ∧ y.cls ≠ "java/lang/invoke/VarHandle")
    (E : Exa Z h b C) {W : Nat} (hK : Back l R p e below (s.setVm vm) args y 3 W (fun P a => a = (.ref b :: as).toArray ∧ P.U.heap = h ∧ P.cells + 0 ≤ R.cells ∧ P.slots + 0 ≤ R.slots) (fun P _ v B => ∃ L, (Q v ∧ L = [] ∧ B.U.heap = h) ∧ B.locs = P.locs ++ L ∧ B.cells = P.cells + 0 ∧ B.slots = P.slots + 0))
    {ps : List FieldType} {r : Option FieldType} (hd0 : parseMethodDescriptor y.desc = some ⟨ps, r⟩) (hlen : as.length = ps.length)
    {g : JFrame} (hg : g.method = m) (hsize : g.locals.size = c.maxLocals) {rest : List Value} (hs : g.stack = as.reverse ++ .ref b :: rest) (hW : 2 * g.monitorRoom + (rest.map fun v => v.category).sum ≤ W) (hd : decode c.code g.pc = .ok (.invokevirtual index, 3)) (hc : k ≤ R.cells) (hsl : n ≤ R.slots)
    (K : ∀ v T', Sit p l e R s m args below meth c Z EL own vm T' h k n → Q v → G T' { g with pc := g.pc + 3, stack := v.toList ++ rest }) : G T g := by
  obtain ⟨locs, X, eT, hZ, hown, hS, C, N, O, hn⟩ := S
  obtain ⟨cB, kB, i1, -, i2⟩ := isOf (s := s.setVm vm) hZ eT E
  obtain ⟨v, vm1, ⟨U, L', k', n'⟩, -, X', ⟨L, ⟨hq, hL, hU⟩, q1, q2, q3⟩, st⟩ := X.virtualBack hx (y := y) (z := y) hown (mvT hZ wl) (mvT hZ wd) (notFace_of_selects (args := #[]) (mvT hZ wsl)) (mvT hZ wsl) (mvT hZ wim) hy hK i1 i2 hg hsize (Steps.refl _) (argsL := as) (lenOf hd0 hlen) hs hW hd (fun _ _ => ⟨rfl, eT, hc, hsl⟩)
  dsimp only [Pt.U, Pt.locs, Pt.cells, Pt.slots] at X' hU q1 q2 q3 st
  subst q1 q2 q3 hL
  rw [List.append_nil] at X'
  exact hG.st (fun t q => st.trans q) (K v U ⟨locs, X', hU, hZ, hown, hS, C, N, O, hn⟩ hq)
section Nw
variable {args : Array Value} {u v : Term} {z : Int32} {vs : List Value} {dv : Value} {ty : FieldType} {cs : List Int32}
theorem eqI (h : (Jvm.Cond.eq u v).value args s none s [] = some true) (hb : v.eval args s none [] s = some (.int z)) : u.eval args s none [] s = some (.int z) := by
  obtain ⟨x, y, h1, h2, h3, h4⟩ := cmp_v (Or.inl h)
  cases h2.symm.trans hb
  obtain ⟨w, rfl⟩ := h4
  have := gotT (Cond.eq_ints h1 hb) h
  rw [h1, this]
theorem eqR (h : (Jvm.Cond.eq u v).value args s none s [] = some true) (hb : v.eval args s none [] s = some (.ref a)) : u.eval args s none [] s = some (.ref a) := by
  obtain ⟨x, y, h1, h2, h3, h4⟩ := cmp_v (Or.inl h)
  cases h2.symm.trans hb
  have := gotT (eq_R h1 hb h4.2 rfl) h
  rw [h1, this]
theorem eqR2 (h : (Jvm.Cond.eq u v).value args s none s [] = some true) (hb : u.eval args s none [] s = some (.ref a)) : v.eval args s none [] s = some (.ref a) := by
  obtain ⟨x, y, h1, h2, h3, h4⟩ := cmp_v (Or.inl h)
  cases h1.symm.trans hb
  have := gotT (eq_R hb h2 rfl h3.2) h
  rw [h2, ← this]
theorem arvOf (hf : Fit s) (ev : u.eval args s none [] s = some (.ref a)) (hA : (Jvm.Cond.arrayOf u ty).value args s none s [] = some true) (hl : (Jvm.Cond.eq (.length u) (.int z)).value args s none s [] = some true) (hz : ¬ z < 0) (hn : z.toNatClampNeg = vs.length)
    (hv : ∀ i (hi : i < vs.length), (Term.elem u (.int (Int32.ofNat i))).eval args s none [] s = some vs[i]) : ∃ kc, Arv s s.heap a kc ty z vs dv := by
  obtain ⟨cl, A⟩ := Arr.start ev hA
  have hlen := eqI hl (Term.int_eval z)
  have hat : s.arrayAt? a = some cl := A.fin ⟨rfl, rfl, fun _ k hk => ⟨k, hk, rfl⟩⟩
  have h31 := SBG.length_lt ev hat hlen
  have hs : cl.slots.size.toInt32 = z := by
    have := (len_f ev hat h31).symm.trans hlen
    simpa using this
  have hsz : cl.slots.size = z.toNatClampNeg := by
    rw [← hs]
    show _ = (Int32.ofNat cl.slots.size).toNatClampNeg
    simp [Int32.toNatClampNeg, Int32.toInt_ofNat_small h31]
  have hel : ∀ i, i < cl.slots.size → cl.slots[i]? = some (vs.getD i dv) := fun i hi => by
    have hi' : i < vs.length := by omega
    have q := elem_in (hv i hi') ev (Term.int_eval _) A.1
    have e : (Int32.ofNat i).toNatClampNeg = i := by simp [Int32.toNatClampNeg, Int32.toInt_ofNat_small (show i < 2 ^ 31 by omega)]
    rw [e] at q
    rw [q.2]; simp [hi']
  refine ⟨cl.cls, cl, A, rfl, hsz, hz, hel, fun i hi => ?_⟩
  have e : (Int32.ofNat i).toNatClampNeg = i := by simp [Int32.toNatClampNeg, Int32.toInt_ofNat_small (show i < 2 ^ 31 by omega)]
  have hnn : ¬ (Int32.ofNat i < 0 ∨ cl.slots.size ≤ (Int32.ofNat i).toNatClampNeg) := by
    rw [e, Int32.lt_iff_toInt_lt, Int32.toInt_ofNat_small (show i < 2 ^ 31 by omega)]
    have : (0 : Int32).toInt = 0 := rfl
    omega
  obtain ⟨w, hw1, hw2⟩ := elem_fit hf A hnn
  rw [e, hel i hi] at hw1
  cases hw1
  exact hw2
theorem strOf (hf : Fit s) (ev : u.eval args s none [] s = some (.ref x)) (E : Exa s s.heap x ST) (hc : (Term.field u ST "coder" "B").eval args s none [] s = some (.int 0)) (hv : (Term.field u ST "value" "[B").eval args s none [] s = some (.ref t))
    (hA : (Jvm.Cond.arrayOf (.field u ST "value" "[B") .byte).value args s none s [] = some true) (hl : (Jvm.Cond.eq (.length (.field u ST "value" "[B")) (.int (Int32.ofNat cs.length))).value args s none s [] = some true) (hr : ∀ c ∈ cs, ¬ c < 0 ∧ ¬ (255 : Int32) < c) (hn : cs.length ≤ 4000) (hz : (Int32.ofNat cs.length).toNatClampNeg = cs.length)
    (he : ∀ i (hi : i < cs.length), (Term.elem (.field u ST "value" "[B") (.int (Int32.ofNat i))).eval args s none [] s = some (.int (cs[i]).toInt8.toInt32)) : Str s s.heap x t cs := by
  have hz0 : ¬ Int32.ofNat cs.length < 0 := by
    rw [Int32.lt_iff_toInt_lt, Int32.toInt_ofNat_small (by omega)]
    exact Int.not_lt.mpr (Int.natCast_nonneg _)
  obtain ⟨kc, A⟩ := arvOf (dv := .int 0) (vs := (cs.map fun c => c.toInt8.toInt32).map Value.int) hf hv hA hl hz0 (by rw [hz]; simp) (fun i hi => by
    have hi' : i < cs.length := by simpa using hi
    rw [he i hi']; simp)
  exact ⟨kc, E, Fld.start ((fld_at ev).symm.trans hv), Fld.start ((fld_at ev).symm.trans hc), A, hr, hn⟩
end Nw
theorem Sit.strEq (hG : Cl p e below G) (S : Sit p l e R s m args below meth c Z EL own vm T h k n) (hx : p.tables.exec = Jvm.exec) (hws : ∀ d ∈ StrChars.Road.wordsEq, d.before a0 Z = true) (hcs : Cmp Z) (wi : (Jvm.Cond.instantiable ST 4).before a0 Z = true) {index : Nat}
    (wl : (Jvm.Cond.methodLink own index ⟨"java/lang/String", "equals", "(Ljava/lang/Object;)Z"⟩).before a0 Z = true) (wd : (Jvm.Cond.declares ⟨"java/lang/String", "equals", "(Ljava/lang/Object;)Z"⟩).before a0 Z = true) (wsl : (Jvm.Cond.selects ST ⟨"java/lang/String", "equals", "(Ljava/lang/Object;)Z"⟩ ⟨"java/lang/String", "equals", "(Ljava/lang/Object;)Z"⟩).before a0 Z = true) (wim : (Jvm.Cond.instanceMethod ⟨"java/lang/String", "equals", "(Ljava/lang/Object;)Z"⟩).before a0 Z = true)
    {cs ds : List Int32} {y u : Addr} (F : Str Z h b t cs) (F' : Str Z h y u ds) {g : JFrame} (hg : g.method = m) (hsize : g.locals.size = c.maxLocals) {rest : List Value} (hs : g.stack = .ref y :: .ref b :: rest) {W : Nat} (hW : 2 * g.monitorRoom + (rest.map fun v => v.category).sum ≤ W) (hd : decode c.code g.pc = .ok (.invokevirtual index, 3)) (hf : 2 ≤ R.frames) (hl : W + 28 ≤ R.locals) (hc : k ≤ R.cells) (hsl : n ≤ R.slots)
    (K : ∀ T', Sit p l e R s m args below meth c Z EL own vm T' h k n → G T' { g with pc := g.pc + 3, stack := .int (if cs = ds then 1 else 0) :: rest }) : G T g := by
  obtain ⟨z, hz1, hz2⟩ := hcs
  obtain ⟨kb, q1, q2, q3, q4, q5, q6⟩ := F
  obtain ⟨kb', r1, r2, r3, r4, r5, r6⟩ := F'
  have hcd := StrChars.Road.codOf (cs := cs) (n := cs.length) rfl (fun c hc => (q5 c hc).2)
  have hcd' := StrChars.Road.codOf (cs := ds) (n := ds.length) rfl (fun c hc => (r5 c hc).2)
  refine S.pureV hG hx (Q := fun v => (v = some (.int 1) ∧ cs = ds) ∨ (v = some (.int 0) ∧ ¬ cs = ds)) wl wd wsl wim (by decide) q1 (as := [.ref y]) (W := W) (StrChars.Road.eqW (W := W) S.warm hws wi q1 q2 q3 q4 hcd (up _ q5) q6 r1 r2 r3 r4 hcd' (up _ r5) r6 (hz1.ext S.old) hz2 hf hl) (ps := [.object "java/lang/Object"]) (r := some .boolean) (by decide +kernel) rfl hg hsize (rest := rest) hs hW hd hc hsl ?_
  rintro v T' S' (⟨rfl, hq⟩ | ⟨rfl, hq⟩)
  · have := K T' S'
    rw [if_pos hq] at this
    exact this
  · have := K T' S'
    rw [if_neg hq] at this
    exact this
theorem Sit.newStr (hG : Cl p e below G) (S : Sit p l e R s m args below meth c Z EL own vm T h k n) (hx : p.tables.exec = Jvm.exec) (hws : ∀ d ∈ StrChars.Road.words, d.before a0 Z = true) (hcs : Cmp Z) (wi : (Jvm.Cond.instantiable ST 4).before a0 Z = true) {index : Nat}
    (wl : (Jvm.Cond.methodLink own index ⟨"java/lang/String", "<init>", "([C)V"⟩).before a0 Z = true) (wim : (Jvm.Cond.instanceMethod ⟨"java/lang/String", "<init>", "([C)V"⟩).before a0 Z = true)
    {cs : List Int32} {kC : ClassId} {d v0 c0 : Value} {zn : Int32} (gx : Z.heap.size ≤ x) (sf : Safe Z EL vm h x) (E : Exa Z h x ST) (V : Fld Z h x ST "value" "[B" v0) (C : Fld Z h x ST "coder" "B" c0) (A : Arv Z h b kC .char zn (cs.map Value.int) d) (hN : zn = Int32.ofNat cs.length) (l0 : 0 < cs.length) (l2 : cs.length ≤ 4000) (hp : ∀ c ∈ cs, ¬ c < 0 ∧ ¬ (255 : Int32) < c)
    {nn : Nat} (hnn : cs.length ≤ nn) {g : JFrame} (hg : g.method = m) (hsize : g.locals.size = c.maxLocals) {rest : List Value} (hs : g.stack = .ref b :: .ref x :: rest) {W : Nat} (hW : 2 * g.monitorRoom + (rest.map fun v => v.category).sum ≤ W) (hd : decode c.code g.pc = .ok (.invokespecial index, 3)) (hf : 4 ≤ R.frames) (hl : W + 65 ≤ R.locals) (hc : k + 1 ≤ R.cells) (hsl : n + nn ≤ R.slots)
    (K : ∀ T' h' t, Sit p l e R s m args below meth c Z EL own vm T' h' (k + 1) (n + nn) → Stp Z EL vm h vm h' [x] → h.size ≤ t → Str Z h' x t cs → G T' { g with pc := g.pc + 3, stack := rest }) : G T g := by
  obtain ⟨z, hz1, hz2⟩ := hcs
  have ho := S.old
  obtain ⟨locs, X, eT, hZ, hown, ⟨j, hS, hj⟩, C0, N, O, hn⟩ := S
  obtain ⟨v, vm1, ⟨U, L', k', n'⟩, -, X', ⟨L, hQ, q1, q2, q3⟩, st⟩ := X.specialBack hx (y := (⟨"java/lang/String", "<init>", "([C)V"⟩ : MethodName)) rfl hown (mvT hZ wl) (mvT hZ wim) (mvT hZ (hws _ List.mem_cons_self)) (by decide) (StrChars.Road.backV (W := W) (bs := cs.map (fun c => c.toInt8.toInt32)) (n := cs.length) (n0 := Z.heap.size) hZ hws wi gx ho.1 E V C A (hz1.ext ho) hz2 rfl hN l0 l2 hp rfl hf hl) hg hsize (Steps.refl _) (a := x) (argsL := [.ref b]) (rest := rest) (lenOf (ps := [.array .char]) (r := none) (by decide +kernel) rfl) hs hW hd (fun _ _ => ⟨rfl, eT, hc, Nat.le_trans (Nat.add_le_add_left hnn _) hsl⟩)
  dsimp only [Pt.U, Pt.locs, Pt.cells, Pt.slots] at X' hQ q1 q2 q3 st
  subst q1 q2 q3
  obtain ⟨rfl, N', K', E', C', t, kb, t1, t2, t3, V', A'⟩ := hQ
  have J : Stp Z EL vm h vm U.heap [x] := Stp.of_keep K' (allS sf all0) C0.1
  subst hN
  refine hG.st (fun t q => st.trans q) (K U U.heap t ⟨_, { X' with same := X'.same.mono (Nat.le_refl _) (Nat.add_le_add_left hnn _) }, rfl, hZ, hown, ⟨j, hS, Nat.le_trans hj K'.1⟩, C0.trans J.2, N.app N', O, hn⟩ J t2 ⟨kb, E', V', C', A', hp, l2⟩)
end L2
end Jvm.Pilot.@@N@@.Own


namespace Jvm.Pilot.@@N@@
open Jvm Jvm.ClassFile Sem Op Lib Jvm.Free Jvm.Stand Jvm.LawKit Jvm.RoadKit Bundle Jvm.Pilot.@@N@@.Jvm.D
def own_Wld (Z : State) (a0 : Array Value) : Prop := (∀ d ∈ tables_1, d.before a0 Z = true) ∧ Own.Cmp Z ∧ Own.Sio Z
set_option maxRecDepth 65536 in
theorem own_wbackV : ∀ d ∈ StrChars.Road.words, d ∈ tables_1 := by decide +kernel
set_option maxRecDepth 65536 in
theorem own_weqW : ∀ d ∈ StrChars.Road.wordsEq, d ∈ tables_1 := by decide +kernel
def own_En (Z : State) (kl kn va sl tl sn tn : Addr) (kc : ClassId) : Prop := Sta Z Z.heap "com/example/earnline/earnline/core/Item$Kind" "LABOR" "Lcom/example/earnline/earnline/core/Item$Kind;" (.ref kl) ∧ Sta Z Z.heap "com/example/earnline/earnline/core/Item$Kind" "NONLABOR" "Lcom/example/earnline/earnline/core/Item$Kind;" (.ref kn) ∧ Sta Z Z.heap "com/example/earnline/earnline/core/Item$Kind" "$VALUES" "[Lcom/example/earnline/earnline/core/Item$Kind;" (.ref va) ∧ Arv Z Z.heap va kc (.object "com/example/earnline/earnline/core/Item$Kind") (2 : Int32) [(.ref kl), (.ref kn)] .null ∧ Exa Z Z.heap va "[Lcom/example/earnline/earnline/core/Item$Kind;" ∧ Exa Z Z.heap kl "com/example/earnline/earnline/core/Item$Kind" ∧ Exa Z Z.heap kn "com/example/earnline/earnline/core/Item$Kind" ∧ Fld Z Z.heap kl "com/example/earnline/earnline/core/Item$Kind" "written" "Ljava/lang/String;" (.ref sl) ∧ Fld Z Z.heap kn "com/example/earnline/earnline/core/Item$Kind" "written" "Ljava/lang/String;" (.ref sn) ∧ Own.Str Z Z.heap sl tl [108, 97, 98, 111, 114] ∧ Own.Str Z Z.heap sn tn [110, 111, 110, 108, 97, 98, 111, 114]
theorem own_pn600732 : plainFor (⟨"com/example/earnline/earnline/core/Item$Kind", "values", "()[Lcom/example/earnline/earnline/core/Item$Kind;"⟩ : MethodName) = true := by first | exact plainFor_of_name (by first | (simp [plainName, overriddenIn]; done) | decide +kernel) | decide +kernel
theorem own_dprog_92_method_1_code_0 : decode prog_92_method_1_code 0 = .ok (.getstatic 10, 3) := by decide +kernel
theorem own_dprog_92_method_1_code_3 : decode prog_92_method_1_code 3 = .ok (.invokevirtual 14, 3) := by decide +kernel
theorem own_dprog_92_method_1_code_6 : decode prog_92_method_1_code 6 = .ok (.checkcast 15, 3) := by decide +kernel
theorem own_dprog_92_method_1_code_9 : decode prog_92_method_1_code 9 = .ok (.areturn, 1) := by decide +kernel
theorem own_ef_own_values (m : MethodId)  : entryFrame m #[] 0 = mkF m 0 #[] [] := by first | (simp [entryFrame, mkF, argsToLocals, Value.category]; done) | rfl
set_option maxRecDepth 65536 in
set_option maxHeartbeats 40000000 in
theorem own_values (l : Launch) (Z : State) (a0 : Array Value) (H : own_Wld Z a0) {cw : List Jvm.Cond}  {kl kn va sl tl sn tn : Addr} {kc : ClassId} (N : own_En Z kl kn va sl tl sn tn kc) (h0 : Heap) (O0 : Ext Z.heap h0) :
    Own.Con l Z ([] : List (String × Nat)) (⟨"com/example/earnline/earnline/core/Item$Kind", "values", "()[Lcom/example/earnline/earnline/core/Item$Kind;"⟩ : MethodName) prog_92_method_1_code 0 (some (.array (.object "com/example/earnline/earnline/core/Item$Kind"))) cw ({ frames := 1, cells := 1, slots := 2, locals := 14 } : Room) #[] h0 (fun v h => Keep h0 h [] ∧ ∃ x, v = some (.ref x) ∧ h0.size ≤ x ∧ Arv Z h x kc (.object "com/example/earnline/earnline/core/Item$Kind") (2 : Int32) [(.ref kl), (.ref kn)] .null) := by
  have hw := H.1
  have hW := fun (i : Nat) (w : Jvm.Cond) (e : tables_1[i]? = some w) => hw w (List.mem_of_getElem? e)
  have hCm := H.2.1
  have hSi := H.2.2
  have hWs : ∀ d ∈ StrChars.Road.words, d.before a0 Z = true := fun d hd => hw d (own_wbackV d hd)
  have hWe : ∀ d ∈ StrChars.Road.wordsEq, d.before a0 Z = true := fun d hd => hw d (own_weqW d hd)
  refine Own.Con.of own_pn600732 rfl O0 ?_
  intro p e s m below meth c T0 G vm0 hx hby hml hret hnm hG hR S0
  have hz : ∀ L : Array Slot, L.size = 0 → L.size = c.maxLocals := fun L q => q.trans hml.symm
  rw [own_ef_own_values]
  show G T0 (mkF m 0 #[] [])
  obtain ⟨Sl, Sn, Sv, Av, Ev, Ekl, Ekn, Fkl, Fkn, Sts, Stn⟩ := id N
  refine Own.Sit.getS hG S0 hx (host := "") (Or.inl (hW 39 _ rfl)) Via.refl (Sv.ext S0.old) rfl (hb hby own_dprog_92_method_1_code_0) (fun T1 S1 => ?_)
  show G T1 (mkF m 3 #[] [(.ref va)])
  have V2 := Av.ext S1.old
  have E3 := Ev.ext S1.old
  refine Own.Sit.cloneA hG S1 hx (hW 41 _ rfl) (hW 42 _ rfl) (hW 46 _ rfl) (hW 44 _ rfl) (hW 45 _ rfl) (hW 47 _ rfl) V2 E3 rfl (hz _ rfl) (rest := []) rfl (hb hby own_dprog_92_method_1_code_3) (by decide) (W := 0) (cap := 2) (by show 2 * 0 + _ ≤ _; exact Nat.le_of_eq rfl) (by decide) (by decide) (by decide) (by decide) (fun T4 h4 x4 g_x4 S4 J4 V4 E4 => ?_)
  have lt_x4 := V4.lt
  have ga_x4 : Z.heap.size ≤ x4 := Nat.le_trans S1.le (Nat.le_of_eq g_x4.symm)
  show G T4 (mkF m 6 #[] [(.ref x4)])
  refine Own.Sit.castY hG S4 hx (hW 50 _ rfl) (Ins.self E4) rfl rfl (hb hby own_dprog_92_method_1_code_6) (fun T5 S5 => ?_)
  show G T5 (mkF m 9 #[] [(.ref x4)])
  exact Own.Sit.retO hR S5 hx hret rfl (Or.inr (Or.inr (Or.inr (Or.inr ⟨rfl, rfl, rfl⟩)))) (hb hby own_dprog_92_method_1_code_9) (by decide) (by decide) ⟨J4.1, x4, rfl, (Nat.le_of_eq g_x4.symm), V4⟩
theorem own_pnd5ccb1 : plainFor (⟨"com/example/earnline/earnline/core/Item$Kind", "of", "(Ljava/lang/String;)Lcom/example/earnline/earnline/core/Item$Kind;"⟩ : MethodName) = true := by first | exact plainFor_of_name (by first | (simp [plainName, overriddenIn]; done) | decide +kernel) | decide +kernel
theorem own_pd2e7123 : parseMethodDescriptor "()[Lcom/example/earnline/earnline/core/Item$Kind;" = some ⟨[], some (.array (.object "com/example/earnline/earnline/core/Item$Kind"))⟩ := by decide +kernel
theorem own_dprog_92_method_4_code_0 : decode prog_92_method_4_code 0 = .ok (.invokestatic 49, 3) := by decide +kernel
theorem own_dprog_92_method_4_code_3 : decode prog_92_method_4_code 3 = .ok (.astore_n 1, 1) := by decide +kernel
theorem own_dprog_92_method_4_code_4 : decode prog_92_method_4_code 4 = .ok (.aload_n 1, 1) := by decide +kernel
theorem own_dprog_92_method_4_code_5 : decode prog_92_method_4_code 5 = .ok (.arraylength, 1) := by decide +kernel
theorem own_dprog_92_method_4_code_6 : decode prog_92_method_4_code 6 = .ok (.istore_n 2, 1) := by decide +kernel
theorem own_dprog_92_method_4_code_7 : decode prog_92_method_4_code 7 = .ok (.iconst 0, 1) := by decide +kernel
theorem own_dprog_92_method_4_code_8 : decode prog_92_method_4_code 8 = .ok (.istore_n 3, 1) := by decide +kernel
theorem own_dprog_92_method_4_code_9 : decode prog_92_method_4_code 9 = .ok (.iload_n 3, 1) := by decide +kernel
theorem own_dprog_92_method_4_code_10 : decode prog_92_method_4_code 10 = .ok (.iload_n 2, 1) := by decide +kernel
theorem own_dprog_92_method_4_code_11 : decode prog_92_method_4_code 11 = .ok (.if_icmp .ge 29, 3) := by decide +kernel
theorem own_dprog_92_method_4_code_14 : decode prog_92_method_4_code 14 = .ok (.aload_n 1, 1) := by decide +kernel
theorem own_dprog_92_method_4_code_15 : decode prog_92_method_4_code 15 = .ok (.iload_n 3, 1) := by decide +kernel
theorem own_dprog_92_method_4_code_16 : decode prog_92_method_4_code 16 = .ok (.aaload, 1) := by decide +kernel
theorem own_dprog_92_method_4_code_17 : decode prog_92_method_4_code 17 = .ok (.astore 4, 2) := by decide +kernel
theorem own_dprog_92_method_4_code_19 : decode prog_92_method_4_code 19 = .ok (.aload 4, 2) := by decide +kernel
theorem own_dprog_92_method_4_code_21 : decode prog_92_method_4_code 21 = .ok (.getfield 45, 3) := by decide +kernel
theorem own_dprog_92_method_4_code_24 : decode prog_92_method_4_code 24 = .ok (.aload_n 0, 1) := by decide +kernel
theorem own_dprog_92_method_4_code_25 : decode prog_92_method_4_code 25 = .ok (.invokevirtual 53, 3) := by decide +kernel
theorem own_dprog_92_method_4_code_28 : decode prog_92_method_4_code 28 = .ok (.ifCond .eq 6, 3) := by decide +kernel
theorem own_dprog_92_method_4_code_31 : decode prog_92_method_4_code 31 = .ok (.aload 4, 2) := by decide +kernel
theorem own_dprog_92_method_4_code_33 : decode prog_92_method_4_code 33 = .ok (.areturn, 1) := by decide +kernel
theorem own_ef_own_of1 (m : MethodId) (x : Addr) : entryFrame m #[(.ref x)] 5 = mkF m 0 #[rv x, .unset, .unset, .unset, .unset] [] := by first | (simp [entryFrame, mkF, argsToLocals, Value.category]; done) | rfl
set_option maxRecDepth 65536 in
set_option maxHeartbeats 40000000 in
theorem own_of1 (l : Launch) (Z : State) (a0 : Array Value) (H : own_Wld Z a0) {cw : List Jvm.Cond} (x : Addr) {kl kn va sl tl sn tn : Addr} {kc : ClassId} (N : own_En Z kl kn va sl tl sn tn kc) (t : Addr) (h0 : Heap) (O0 : Ext Z.heap h0) (St_x : Own.Str Z h0 x t [108, 97, 98, 111, 114]) :
    Own.Con l Z ([] : List (String × Nat)) (⟨"com/example/earnline/earnline/core/Item$Kind", "of", "(Ljava/lang/String;)Lcom/example/earnline/earnline/core/Item$Kind;"⟩ : MethodName) prog_92_method_4_code 5 (some (.object "com/example/earnline/earnline/core/Item$Kind")) cw ({ frames := 2, cells := 1, slots := 2, locals := 28 } : Room) #[(.ref x)] h0 (fun v h => Keep h0 h [] ∧ v = some (.ref kl)) := by
  have hw := H.1
  have hW := fun (i : Nat) (w : Jvm.Cond) (e : tables_1[i]? = some w) => hw w (List.mem_of_getElem? e)
  have hCm := H.2.1
  have hSi := H.2.2
  have hWs : ∀ d ∈ StrChars.Road.words, d.before a0 Z = true := fun d hd => hw d (own_wbackV d hd)
  have hWe : ∀ d ∈ StrChars.Road.wordsEq, d.before a0 Z = true := fun d hd => hw d (own_weqW d hd)
  refine Own.Con.of own_pnd5ccb1 rfl O0 ?_
  intro p e s m below meth c T0 G vm0 hx hby hml hret hnm hG hR S0
  have hz : ∀ L : Array Slot, L.size = 5 → L.size = c.maxLocals := fun L q => q.trans hml.symm
  rw [own_ef_own_of1]
  show G T0 (mkF m 0 #[rv x, .unset, .unset, .unset, .unset] [])
  obtain ⟨Sl, Sn, Sv, Av, Ev, Ekl, Ekn, Fkl, Fkn, Sts, Stn⟩ := id N
  refine Own.Sit.callS hG S0 hx (as := []) (hW 36 _ rfl) (hW 37 _ rfl) (hW 2 _ rfl) (hW 38 _ rfl) (by decide) (own_values l Z a0 H N h0 S0.old) own_pd2e7123 rfl rfl (hz _ rfl) (rest := []) rfl (W := 0) (by show 2 * 0 + _ ≤ _; exact Nat.le_of_eq rfl) (hb hby own_dprog_92_method_4_code_0) (by decide) (by decide) (by decide) (by decide) (ws := []) (fun _ _ q => q.1) sf0 (fun v6 vm6 T6 h6 S6 C6 q6 => ?_)
  obtain ⟨K6, x6, rfl, u6, V6⟩ := q6
  have J6 : Own.Stp Z ([] : List (String × Nat)) vm0 h0 vm6 h6 [] := ⟨K6, C6⟩
  show G T6 (mkF m 3 #[rv x, .unset, .unset, .unset, .unset] [(.ref x6)])
  refine hG.st (fun t q => XS.astoreN S6.here hx rfl (hb hby own_dprog_92_method_4_code_3) rfl rfl (l' := #[rv x, rv x6, .unset, .unset, .unset]) rfl (XS.aloadN S6.here hx rfl (hb hby own_dprog_92_method_4_code_4) rfl rfl q)) ?_
  show G T6 (mkF m 5 #[rv x, rv x6, .unset, .unset, .unset] [(.ref x6)])
  refine Own.Sit.arraylength hG S6 hx V6 rfl rfl (hb hby own_dprog_92_method_4_code_5) ?_
  show G T6 (mkF m 6 #[rv x, rv x6, .unset, .unset, .unset] [(.int 2)])
  refine hG.st (fun t q => XS.istoreN S6.here hx rfl (hb hby own_dprog_92_method_4_code_6) rfl (l' := #[rv x, rv x6, iv 2, .unset, .unset]) rfl (XS.iconst S6.here hx rfl (hb hby own_dprog_92_method_4_code_7) (XS.istoreN S6.here hx rfl (hb hby own_dprog_92_method_4_code_8) rfl (l' := #[rv x, rv x6, iv 2, iv 0, .unset]) rfl (XS.iloadN S6.here hx rfl (hb hby own_dprog_92_method_4_code_9) rfl (XS.iloadN S6.here hx rfl (hb hby own_dprog_92_method_4_code_10) rfl (XS.icmpNo S6.here hx rfl (hb hby own_dprog_92_method_4_code_11) rfl (tlt (by decide : (0 : Int32) < (2 : Int32))).2.1 q)))))) ?_
  show G T6 (mkF m 14 #[rv x, rv x6, iv 2, iv 0, .unset] [])
  refine hG.st (fun t q => XS.aloadN S6.here hx rfl (hb hby own_dprog_92_method_4_code_14) rfl rfl (XS.iloadN S6.here hx rfl (hb hby own_dprog_92_method_4_code_15) rfl q)) ?_
  show G T6 (mkF m 16 #[rv x, rv x6, iv 2, iv 0, .unset] [(.int 0), (.ref x6)])
  refine Own.Sit.aaload hG S6 hx V6 rfl ⟨by decide, by decide⟩ rfl rfl rfl (hb hby own_dprog_92_method_4_code_16) ?_
  show G T6 (mkF m 17 #[rv x, rv x6, iv 2, iv 0, .unset] [(.ref kl)])
  refine hG.st (fun t q => XS.astore S6.here hx rfl (hb hby own_dprog_92_method_4_code_17) rfl rfl (l' := #[rv x, rv x6, iv 2, iv 0, rv kl]) rfl (XS.aload S6.here hx rfl (hb hby own_dprog_92_method_4_code_19) rfl rfl q)) ?_
  show G T6 (mkF m 21 #[rv x, rv x6, iv 2, iv 0, rv kl] [(.ref kl)])
  have F7 := Fkl.ext S6.old
  refine Own.Sit.getF hG S6 hx (host := "") (Or.inl (hW 52 _ rfl)) Via.refl F7 rfl rfl (hb hby own_dprog_92_method_4_code_21) (fun T8 S8 => ?_)
  show G T8 (mkF m 24 #[rv x, rv x6, iv 2, iv 0, rv kl] [(.ref sl)])
  refine hG.st (fun t q => XS.aloadN S8.here hx rfl (hb hby own_dprog_92_method_4_code_24) rfl rfl q) ?_
  show G T8 (mkF m 25 #[rv x, rv x6, iv 2, iv 0, rv kl] [(.ref x), (.ref sl)])
  have St9 := Sts.ext S8.old
  have St10 := J6.str St_x nin0 nin0
  refine Own.Sit.strEq hG S8 hx hWe hCm (hW 5 _ rfl) (hW 54 _ rfl) (hW 55 _ rfl) (hW 57 _ rfl) (hW 56 _ rfl) St9 St10 rfl (hz _ rfl) (rest := []) rfl (W := 0) (by show 2 * 0 + _ ≤ _; exact Nat.le_of_eq rfl) (hb hby own_dprog_92_method_4_code_25) (by decide) (by decide) (by decide) (by decide) (fun T11 S11 => ?_)
  show G T11 (mkF m 28 #[rv x, rv x6, iv 2, iv 0, rv kl] [(.int (if ([108, 97, 98, 111, 114] : List Int32) = ([108, 97, 98, 111, 114] : List Int32) then 1 else 0))])
  refine hG.st (fun t q => XS.ifNo S11.here hx rfl (hb hby own_dprog_92_method_4_code_28) rfl ((if0 _ _).trans (feq (by decide : ¬ ((if ([108, 97, 98, 111, 114] : List Int32) = ([108, 97, 98, 111, 114] : List Int32) then 1 else 0) = (0 : Int32)))).1) (XS.aload S11.here hx rfl (hb hby own_dprog_92_method_4_code_31) rfl rfl q)) ?_
  show G T11 (mkF m 33 #[rv x, rv x6, iv 2, iv 0, rv kl] [(.ref kl)])
  exact Own.Sit.retO hR S11 hx hret rfl (Or.inr (Or.inr (Or.inr (Or.inr ⟨rfl, rfl, rfl⟩)))) (hb hby own_dprog_92_method_4_code_33) (by decide) (by decide) ⟨J6.1, rfl⟩
theorem own_dprog_92_method_4_code_34 : decode prog_92_method_4_code 34 = .ok (.iinc 3 1, 3) := by decide +kernel
theorem own_dprog_92_method_4_code_37 : decode prog_92_method_4_code 37 = .ok (.goto (-28), 3) := by decide +kernel
theorem own_ef_own_of2 (m : MethodId) (x : Addr) : entryFrame m #[(.ref x)] 5 = mkF m 0 #[rv x, .unset, .unset, .unset, .unset] [] := by first | (simp [entryFrame, mkF, argsToLocals, Value.category]; done) | rfl
set_option maxRecDepth 65536 in
set_option maxHeartbeats 40000000 in
theorem own_of2 (l : Launch) (Z : State) (a0 : Array Value) (H : own_Wld Z a0) {cw : List Jvm.Cond} (x : Addr) {kl kn va sl tl sn tn : Addr} {kc : ClassId} (N : own_En Z kl kn va sl tl sn tn kc) (t : Addr) (h0 : Heap) (O0 : Ext Z.heap h0) (St_x : Own.Str Z h0 x t [110, 111, 110, 108, 97, 98, 111, 114]) :
    Own.Con l Z ([] : List (String × Nat)) (⟨"com/example/earnline/earnline/core/Item$Kind", "of", "(Ljava/lang/String;)Lcom/example/earnline/earnline/core/Item$Kind;"⟩ : MethodName) prog_92_method_4_code 5 (some (.object "com/example/earnline/earnline/core/Item$Kind")) cw ({ frames := 2, cells := 1, slots := 2, locals := 28 } : Room) #[(.ref x)] h0 (fun v h => Keep h0 h [] ∧ v = some (.ref kn)) := by
  have hw := H.1
  have hW := fun (i : Nat) (w : Jvm.Cond) (e : tables_1[i]? = some w) => hw w (List.mem_of_getElem? e)
  have hCm := H.2.1
  have hSi := H.2.2
  have hWs : ∀ d ∈ StrChars.Road.words, d.before a0 Z = true := fun d hd => hw d (own_wbackV d hd)
  have hWe : ∀ d ∈ StrChars.Road.wordsEq, d.before a0 Z = true := fun d hd => hw d (own_weqW d hd)
  refine Own.Con.of own_pnd5ccb1 rfl O0 ?_
  intro p e s m below meth c T0 G vm0 hx hby hml hret hnm hG hR S0
  have hz : ∀ L : Array Slot, L.size = 5 → L.size = c.maxLocals := fun L q => q.trans hml.symm
  rw [own_ef_own_of2]
  show G T0 (mkF m 0 #[rv x, .unset, .unset, .unset, .unset] [])
  obtain ⟨Sl, Sn, Sv, Av, Ev, Ekl, Ekn, Fkl, Fkn, Sts, Stn⟩ := id N
  refine Own.Sit.callS hG S0 hx (as := []) (hW 36 _ rfl) (hW 37 _ rfl) (hW 2 _ rfl) (hW 38 _ rfl) (by decide) (own_values l Z a0 H N h0 S0.old) own_pd2e7123 rfl rfl (hz _ rfl) (rest := []) rfl (W := 0) (by show 2 * 0 + _ ≤ _; exact Nat.le_of_eq rfl) (hb hby own_dprog_92_method_4_code_0) (by decide) (by decide) (by decide) (by decide) (ws := []) (fun _ _ q => q.1) sf0 (fun v12 vm12 T12 h12 S12 C12 q12 => ?_)
  obtain ⟨K12, x12, rfl, u12, V12⟩ := q12
  have J12 : Own.Stp Z ([] : List (String × Nat)) vm0 h0 vm12 h12 [] := ⟨K12, C12⟩
  show G T12 (mkF m 3 #[rv x, .unset, .unset, .unset, .unset] [(.ref x12)])
  refine hG.st (fun t q => XS.astoreN S12.here hx rfl (hb hby own_dprog_92_method_4_code_3) rfl rfl (l' := #[rv x, rv x12, .unset, .unset, .unset]) rfl (XS.aloadN S12.here hx rfl (hb hby own_dprog_92_method_4_code_4) rfl rfl q)) ?_
  show G T12 (mkF m 5 #[rv x, rv x12, .unset, .unset, .unset] [(.ref x12)])
  refine Own.Sit.arraylength hG S12 hx V12 rfl rfl (hb hby own_dprog_92_method_4_code_5) ?_
  show G T12 (mkF m 6 #[rv x, rv x12, .unset, .unset, .unset] [(.int 2)])
  refine hG.st (fun t q => XS.istoreN S12.here hx rfl (hb hby own_dprog_92_method_4_code_6) rfl (l' := #[rv x, rv x12, iv 2, .unset, .unset]) rfl (XS.iconst S12.here hx rfl (hb hby own_dprog_92_method_4_code_7) (XS.istoreN S12.here hx rfl (hb hby own_dprog_92_method_4_code_8) rfl (l' := #[rv x, rv x12, iv 2, iv 0, .unset]) rfl (XS.iloadN S12.here hx rfl (hb hby own_dprog_92_method_4_code_9) rfl (XS.iloadN S12.here hx rfl (hb hby own_dprog_92_method_4_code_10) rfl (XS.icmpNo S12.here hx rfl (hb hby own_dprog_92_method_4_code_11) rfl (tlt (by decide : (0 : Int32) < (2 : Int32))).2.1 q)))))) ?_
  show G T12 (mkF m 14 #[rv x, rv x12, iv 2, iv 0, .unset] [])
  refine hG.st (fun t q => XS.aloadN S12.here hx rfl (hb hby own_dprog_92_method_4_code_14) rfl rfl (XS.iloadN S12.here hx rfl (hb hby own_dprog_92_method_4_code_15) rfl q)) ?_
  show G T12 (mkF m 16 #[rv x, rv x12, iv 2, iv 0, .unset] [(.int 0), (.ref x12)])
  refine Own.Sit.aaload hG S12 hx V12 rfl ⟨by decide, by decide⟩ rfl rfl rfl (hb hby own_dprog_92_method_4_code_16) ?_
  show G T12 (mkF m 17 #[rv x, rv x12, iv 2, iv 0, .unset] [(.ref kl)])
  refine hG.st (fun t q => XS.astore S12.here hx rfl (hb hby own_dprog_92_method_4_code_17) rfl rfl (l' := #[rv x, rv x12, iv 2, iv 0, rv kl]) rfl (XS.aload S12.here hx rfl (hb hby own_dprog_92_method_4_code_19) rfl rfl q)) ?_
  show G T12 (mkF m 21 #[rv x, rv x12, iv 2, iv 0, rv kl] [(.ref kl)])
  have F13 := Fkl.ext S12.old
  refine Own.Sit.getF hG S12 hx (host := "") (Or.inl (hW 52 _ rfl)) Via.refl F13 rfl rfl (hb hby own_dprog_92_method_4_code_21) (fun T14 S14 => ?_)
  show G T14 (mkF m 24 #[rv x, rv x12, iv 2, iv 0, rv kl] [(.ref sl)])
  refine hG.st (fun t q => XS.aloadN S14.here hx rfl (hb hby own_dprog_92_method_4_code_24) rfl rfl q) ?_
  show G T14 (mkF m 25 #[rv x, rv x12, iv 2, iv 0, rv kl] [(.ref x), (.ref sl)])
  have St15 := Sts.ext S14.old
  have St16 := J12.str St_x nin0 nin0
  refine Own.Sit.strEq hG S14 hx hWe hCm (hW 5 _ rfl) (hW 54 _ rfl) (hW 55 _ rfl) (hW 57 _ rfl) (hW 56 _ rfl) St15 St16 rfl (hz _ rfl) (rest := []) rfl (W := 0) (by show 2 * 0 + _ ≤ _; exact Nat.le_of_eq rfl) (hb hby own_dprog_92_method_4_code_25) (by decide) (by decide) (by decide) (by decide) (fun T17 S17 => ?_)
  show G T17 (mkF m 28 #[rv x, rv x12, iv 2, iv 0, rv kl] [(.int (if ([108, 97, 98, 111, 114] : List Int32) = ([110, 111, 110, 108, 97, 98, 111, 114] : List Int32) then 1 else 0))])
  refine hG.st (fun t q => XS.ifYes S17.here hx rfl (pc0 := 28) (pc' := 34) rfl (hb hby own_dprog_92_method_4_code_28) rfl ((if0 _ _).trans (teq (by decide : (if ([108, 97, 98, 111, 114] : List Int32) = ([110, 111, 110, 108, 97, 98, 111, 114] : List Int32) then 1 else 0) = (0 : Int32))).1) (by decide) (by decide) (XS.iinc S17.here hx rfl (hb hby own_dprog_92_method_4_code_34) rfl (l' := #[rv x, rv x12, iv 2, iv 1, rv kl]) rfl (XS.goto S17.here hx rfl (pc0 := 37) (pc' := 9) rfl (hb hby own_dprog_92_method_4_code_37) (by decide) (by decide) (XS.iloadN S17.here hx rfl (hb hby own_dprog_92_method_4_code_9) rfl (XS.iloadN S17.here hx rfl (hb hby own_dprog_92_method_4_code_10) rfl (XS.icmpNo S17.here hx rfl (hb hby own_dprog_92_method_4_code_11) rfl (tlt (by decide : (1 : Int32) < (2 : Int32))).2.1 q)))))) ?_
  show G T17 (mkF m 14 #[rv x, rv x12, iv 2, iv 1, rv kl] [])
  refine hG.st (fun t q => XS.aloadN S17.here hx rfl (hb hby own_dprog_92_method_4_code_14) rfl rfl (XS.iloadN S17.here hx rfl (hb hby own_dprog_92_method_4_code_15) rfl q)) ?_
  show G T17 (mkF m 16 #[rv x, rv x12, iv 2, iv 1, rv kl] [(.int 1), (.ref x12)])
  refine Own.Sit.aaload hG S17 hx V12 rfl ⟨by decide, by decide⟩ rfl rfl rfl (hb hby own_dprog_92_method_4_code_16) ?_
  show G T17 (mkF m 17 #[rv x, rv x12, iv 2, iv 1, rv kl] [(.ref kn)])
  refine hG.st (fun t q => XS.astore S17.here hx rfl (hb hby own_dprog_92_method_4_code_17) rfl rfl (l' := #[rv x, rv x12, iv 2, iv 1, rv kn]) rfl (XS.aload S17.here hx rfl (hb hby own_dprog_92_method_4_code_19) rfl rfl q)) ?_
  show G T17 (mkF m 21 #[rv x, rv x12, iv 2, iv 1, rv kn] [(.ref kn)])
  have F18 := Fkn.ext S17.old
  refine Own.Sit.getF hG S17 hx (host := "") (Or.inl (hW 52 _ rfl)) Via.refl F18 rfl rfl (hb hby own_dprog_92_method_4_code_21) (fun T19 S19 => ?_)
  show G T19 (mkF m 24 #[rv x, rv x12, iv 2, iv 1, rv kn] [(.ref sn)])
  refine hG.st (fun t q => XS.aloadN S19.here hx rfl (hb hby own_dprog_92_method_4_code_24) rfl rfl q) ?_
  show G T19 (mkF m 25 #[rv x, rv x12, iv 2, iv 1, rv kn] [(.ref x), (.ref sn)])
  have St20 := Stn.ext S19.old
  refine Own.Sit.strEq hG S19 hx hWe hCm (hW 5 _ rfl) (hW 54 _ rfl) (hW 55 _ rfl) (hW 57 _ rfl) (hW 56 _ rfl) St20 St16 rfl (hz _ rfl) (rest := []) rfl (W := 0) (by show 2 * 0 + _ ≤ _; exact Nat.le_of_eq rfl) (hb hby own_dprog_92_method_4_code_25) (by decide) (by decide) (by decide) (by decide) (fun T21 S21 => ?_)
  show G T21 (mkF m 28 #[rv x, rv x12, iv 2, iv 1, rv kn] [(.int (if ([110, 111, 110, 108, 97, 98, 111, 114] : List Int32) = ([110, 111, 110, 108, 97, 98, 111, 114] : List Int32) then 1 else 0))])
  refine hG.st (fun t q => XS.ifNo S21.here hx rfl (hb hby own_dprog_92_method_4_code_28) rfl ((if0 _ _).trans (feq (by decide : ¬ ((if ([110, 111, 110, 108, 97, 98, 111, 114] : List Int32) = ([110, 111, 110, 108, 97, 98, 111, 114] : List Int32) then 1 else 0) = (0 : Int32)))).1) (XS.aload S21.here hx rfl (hb hby own_dprog_92_method_4_code_31) rfl rfl q)) ?_
  show G T21 (mkF m 33 #[rv x, rv x12, iv 2, iv 1, rv kn] [(.ref kn)])
  exact Own.Sit.retO hR S21 hx hret rfl (Or.inr (Or.inr (Or.inr (Or.inr ⟨rfl, rfl, rfl⟩)))) (hb hby own_dprog_92_method_4_code_33) (by decide) (by decide) ⟨J12.1, rfl⟩
theorem own_pn93335a : plainFor (⟨"com/example/earnline/earnline/core/Item$Kind", "toString", "()Ljava/lang/String;"⟩ : MethodName) = true := by first | exact plainFor_of_name (by first | (simp [plainName, overriddenIn]; done) | decide +kernel) | decide +kernel
theorem own_dprog_92_method_5_code_0 : decode prog_92_method_5_code 0 = .ok (.aload_n 0, 1) := by decide +kernel
theorem own_dprog_92_method_5_code_1 : decode prog_92_method_5_code 1 = .ok (.getfield 45, 3) := by decide +kernel
theorem own_dprog_92_method_5_code_4 : decode prog_92_method_5_code 4 = .ok (.areturn, 1) := by decide +kernel
theorem own_ef_own_tostr (m : MethodId) (x : Addr) : entryFrame m #[(.ref x)] 1 = mkF m 0 #[rv x] [] := by first | (simp [entryFrame, mkF, argsToLocals, Value.category]; done) | rfl
set_option maxRecDepth 65536 in
set_option maxHeartbeats 40000000 in
theorem own_tostr (l : Launch) (Z : State) (a0 : Array Value) (H : own_Wld Z a0) {cw : List Jvm.Cond} (x : Addr) (r : Addr) (h0 : Heap) (O0 : Ext Z.heap h0) (F_x : Fld Z h0 x "com/example/earnline/earnline/core/Item$Kind" "written" "Ljava/lang/String;" (.ref r)) :
    Own.Con l Z ([] : List (String × Nat)) (⟨"com/example/earnline/earnline/core/Item$Kind", "toString", "()Ljava/lang/String;"⟩ : MethodName) prog_92_method_5_code 1 (some (.object "java/lang/String")) cw ({ frames := 0, cells := 0, slots := 0, locals := 0 } : Room) #[(.ref x)] h0 (fun v h => Keep h0 h [] ∧ v = some (.ref r)) := by
  have hw := H.1
  have hW := fun (i : Nat) (w : Jvm.Cond) (e : tables_1[i]? = some w) => hw w (List.mem_of_getElem? e)
  have hCm := H.2.1
  have hSi := H.2.2
  have hWs : ∀ d ∈ StrChars.Road.words, d.before a0 Z = true := fun d hd => hw d (own_wbackV d hd)
  have hWe : ∀ d ∈ StrChars.Road.wordsEq, d.before a0 Z = true := fun d hd => hw d (own_weqW d hd)
  refine Own.Con.of own_pn93335a rfl O0 ?_
  intro p e s m below meth c T0 G vm0 hx hby hml hret hnm hG hR S0
  have hz : ∀ L : Array Slot, L.size = 1 → L.size = c.maxLocals := fun L q => q.trans hml.symm
  rw [own_ef_own_tostr]
  show G T0 (mkF m 0 #[rv x] [])
  refine hG.st (fun t q => XS.aloadN S0.here hx rfl (hb hby own_dprog_92_method_5_code_0) rfl rfl q) ?_
  show G T0 (mkF m 1 #[rv x] [(.ref x)])
  refine Own.Sit.getF hG S0 hx (host := "") (Or.inl (hW 52 _ rfl)) Via.refl F_x rfl rfl (hb hby own_dprog_92_method_5_code_1) (fun T22 S22 => ?_)
  show G T22 (mkF m 4 #[rv x] [(.ref r)])
  exact Own.Sit.retO hR S22 hx hret rfl (Or.inr (Or.inr (Or.inr (Or.inr ⟨rfl, rfl, rfl⟩)))) (hb hby own_dprog_92_method_5_code_4) (by decide) (by decide) ⟨(Keep.refl _ _), rfl⟩
theorem own_pn2be0a6 : plainFor x = true := by first | exact plainFor_of_name (by first | (simp [plainName, overriddenIn]; done) | decide +kernel) | decide +kernel
theorem own_pde9aff6 : parseMethodDescriptor "(Ljava/lang/String;)Lcom/example/earnline/earnline/core/Item$Kind;" = some ⟨[(.object "java/lang/String")], some (.object "com/example/earnline/earnline/core/Item$Kind")⟩ := by decide +kernel
theorem own_pdaf964f : parseMethodDescriptor "()Ljava/lang/String;" = some ⟨[], some (.object "java/lang/String")⟩ := by decide +kernel
theorem own_ef_own_law (m : MethodId) (q0 : Int32) : entryFrame m #[(.int q0)] maxLocals = mkF m 0 #[iv q0, .unset, .unset, .unset, .unset, .unset] [] := by first | (simp [entryFrame, mkF, argsToLocals, Value.category, maxLocals]; done) | rfl
set_option maxRecDepth 65536 in
set_option maxHeartbeats 40000000 in
theorem own_law (l : Launch) (Z : State) (a0 : Array Value) (H : own_Wld Z a0) {cw : List Jvm.Cond} (q0 : Int32) {kl kn va sl tl sn tn : Addr} {kc : ClassId} (N : own_En Z kl kn va sl tl sn tn kc) (h0 : Heap) (O0 : Ext Z.heap h0) :
    Own.Con l Z ([] : List (String × Nat)) x code maxLocals ret cw room_1 #[(.int q0)] h0 (fun v h => Keep h0 h [] ∧ v = some (.int 1)) := by
  have hw := H.1
  have hW := fun (i : Nat) (w : Jvm.Cond) (e : tables_1[i]? = some w) => hw w (List.mem_of_getElem? e)
  have hCm := H.2.1
  have hSi := H.2.2
  have hWs : ∀ d ∈ StrChars.Road.words, d.before a0 Z = true := fun d hd => hw d (own_wbackV d hd)
  have hWe : ∀ d ∈ StrChars.Road.wordsEq, d.before a0 Z = true := fun d hd => hw d (own_weqW d hd)
  refine Own.Con.of own_pn2be0a6 rfl O0 ?_
  intro p e s m below meth c T0 G vm0 hx hby hml hret hnm hG hR S0
  have hz : ∀ L : Array Slot, L.size = maxLocals → L.size = c.maxLocals := fun L q => q.trans hml.symm
  rw [own_ef_own_law]
  show G T0 (mkF m 0 #[iv q0, .unset, .unset, .unset, .unset, .unset] [])
  obtain ⟨Sl, Sn, Sv, Av, Ev, Ekl, Ekn, Fkl, Fkn, Sts, Stn⟩ := id N
  refine hG.st (fun t q => XS.iloadN S0.here hx rfl (hb hby at_0) rfl (XS.iconst S0.here hx rfl (hb hby at_1) (XS.iand S0.here hx rfl (hb hby at_2) rfl q))) ?_
  show G T0 (mkF m 3 #[iv q0, .unset, .unset, .unset, .unset, .unset] [(.int (q0 &&& (1 : Int32)))])
  by_cases hc3 : (q0 &&& (1 : Int32)) = (0 : Int32)
  ·
    refine hG.st (fun t q => XS.ifYes S0.here hx rfl (pc0 := 3) (pc' := 10) rfl (hb hby at_3) rfl ((if0 _ _).trans (teq hc3).1) (by decide) (by decide) (XS.iconst S0.here hx rfl (hb hby at_10) (XS.istoreN S0.here hx rfl (hb hby at_11) rfl (l' := #[iv q0, iv 0, .unset, .unset, .unset, .unset]) rfl (XS.iloadN S0.here hx rfl (hb hby at_12) rfl (XS.ifYes S0.here hx rfl (pc0 := 13) (pc' := 70) rfl (hb hby at_13) rfl ((if0 _ _).trans (teq (by decide : (0 : Int32) = (0 : Int32))).1) (by decide) (by decide) (XS.iconst S0.here hx rfl (hb hby at_70) q)))))) ?_
    show G T0 (mkF m 71 #[iv q0, iv 0, .unset, .unset, .unset, .unset] [(.int 5)])
    refine Own.Sit.newP hG S0 hx (aty := .char) (hW 0 _ rfl) rfl (hb hby at_71) rfl (by decide) (cap := 5) (by decide) (by decide) (by decide) (by decide) (fun T23 h23 x23 k23 g_x23 S23 J23 Sf23 (V23 : Arv Z h23 x23 k23 .char (5 : Int32) [(.int 0), (.int 0), (.int 0), (.int 0), (.int 0)] (.int 0)) => ?_)
    have lt_x23 := V23.lt
    have ga_x23 : Z.heap.size ≤ x23 := Nat.le_trans S0.le (Nat.le_of_eq g_x23.symm)
    show G T23 (mkF m 73 #[iv q0, iv 0, .unset, .unset, .unset, .unset] [(.ref x23)])
    refine hG.st (fun t q => XS.dup S23.here hx rfl (hb hby at_73) rfl rfl (XS.iconst S23.here hx rfl (hb hby at_74) (XS.bipush S23.here hx rfl (hb hby at_75) q))) ?_
    show G T23 (mkF m 77 #[iv q0, iv 0, .unset, .unset, .unset, .unset] [(.int 108), (.int 0), (.ref x23), (.ref x23)])
    refine Own.Sit.stC hG S23 hx V23 ga_x23 ⟨by decide, by decide⟩ 0 rfl (Nat.le_of_ble_eq_true rfl) rfl rfl (hb hby at_77) (fun T24 h24 S24 J24 (V24 : Arv Z h24 x23 k23 .char (5 : Int32) [(.int 108), (.int 0), (.int 0), (.int 0), (.int 0)] (.int 0)) => ?_)
    show G T24 (mkF m 78 #[iv q0, iv 0, .unset, .unset, .unset, .unset] [(.ref x23)])
    refine hG.st (fun t q => XS.dup S24.here hx rfl (hb hby at_78) rfl rfl (XS.iconst S24.here hx rfl (hb hby at_79) (XS.bipush S24.here hx rfl (hb hby at_80) q))) ?_
    show G T24 (mkF m 82 #[iv q0, iv 0, .unset, .unset, .unset, .unset] [(.int 97), (.int 1), (.ref x23), (.ref x23)])
    refine Own.Sit.stC hG S24 hx V24 ga_x23 ⟨by decide, by decide⟩ 1 rfl (Nat.le_of_ble_eq_true rfl) rfl rfl (hb hby at_82) (fun T25 h25 S25 J25 (V25 : Arv Z h25 x23 k23 .char (5 : Int32) [(.int 108), (.int 97), (.int 0), (.int 0), (.int 0)] (.int 0)) => ?_)
    show G T25 (mkF m 83 #[iv q0, iv 0, .unset, .unset, .unset, .unset] [(.ref x23)])
    refine hG.st (fun t q => XS.dup S25.here hx rfl (hb hby at_83) rfl rfl (XS.iconst S25.here hx rfl (hb hby at_84) (XS.bipush S25.here hx rfl (hb hby at_85) q))) ?_
    show G T25 (mkF m 87 #[iv q0, iv 0, .unset, .unset, .unset, .unset] [(.int 98), (.int 2), (.ref x23), (.ref x23)])
    refine Own.Sit.stC hG S25 hx V25 ga_x23 ⟨by decide, by decide⟩ 2 rfl (Nat.le_of_ble_eq_true rfl) rfl rfl (hb hby at_87) (fun T26 h26 S26 J26 (V26 : Arv Z h26 x23 k23 .char (5 : Int32) [(.int 108), (.int 97), (.int 98), (.int 0), (.int 0)] (.int 0)) => ?_)
    show G T26 (mkF m 88 #[iv q0, iv 0, .unset, .unset, .unset, .unset] [(.ref x23)])
    refine hG.st (fun t q => XS.dup S26.here hx rfl (hb hby at_88) rfl rfl (XS.iconst S26.here hx rfl (hb hby at_89) (XS.bipush S26.here hx rfl (hb hby at_90) q))) ?_
    show G T26 (mkF m 92 #[iv q0, iv 0, .unset, .unset, .unset, .unset] [(.int 111), (.int 3), (.ref x23), (.ref x23)])
    refine Own.Sit.stC hG S26 hx V26 ga_x23 ⟨by decide, by decide⟩ 3 rfl (Nat.le_of_ble_eq_true rfl) rfl rfl (hb hby at_92) (fun T27 h27 S27 J27 (V27 : Arv Z h27 x23 k23 .char (5 : Int32) [(.int 108), (.int 97), (.int 98), (.int 111), (.int 0)] (.int 0)) => ?_)
    show G T27 (mkF m 93 #[iv q0, iv 0, .unset, .unset, .unset, .unset] [(.ref x23)])
    refine hG.st (fun t q => XS.dup S27.here hx rfl (hb hby at_93) rfl rfl (XS.iconst S27.here hx rfl (hb hby at_94) (XS.bipush S27.here hx rfl (hb hby at_95) q))) ?_
    show G T27 (mkF m 97 #[iv q0, iv 0, .unset, .unset, .unset, .unset] [(.int 114), (.int 4), (.ref x23), (.ref x23)])
    refine Own.Sit.stC hG S27 hx V27 ga_x23 ⟨by decide, by decide⟩ 4 rfl (Nat.le_of_ble_eq_true rfl) rfl rfl (hb hby at_97) (fun T28 h28 S28 J28 (V28 : Arv Z h28 x23 k23 .char (5 : Int32) [(.int 108), (.int 97), (.int 98), (.int 111), (.int 114)] (.int 0)) => ?_)
    show G T28 (mkF m 98 #[iv q0, iv 0, .unset, .unset, .unset, .unset] [(.ref x23)])
    refine hG.st (fun t q => XS.astoreN S28.here hx rfl (hb hby at_98) rfl rfl (l' := #[iv q0, iv 0, rv x23, .unset, .unset, .unset]) rfl q) ?_
    show G T28 (mkF m 99 #[iv q0, iv 0, rv x23, .unset, .unset, .unset] [])
    refine Own.Sit.getS hG S28 hx (host := "") (Or.inl (hW 1 _ rfl)) Via.refl (Sl.ext S28.old) rfl (hb hby at_99) (fun T29 S29 => ?_)
    show G T29 (mkF m 102 #[iv q0, iv 0, rv x23, .unset, .unset, .unset] [(.ref kl)])
    refine hG.st (fun t q => XS.astoreN S29.here hx rfl (hb hby at_102) rfl rfl (l' := #[iv q0, iv 0, rv x23, rv kl, .unset, .unset]) rfl q) ?_
    show G T29 (mkF m 103 #[iv q0, iv 0, rv x23, rv kl, .unset, .unset] [])
    refine Own.Sit.newO hG S29 hx (hW 4 _ rfl) (hW 5 _ rfl) (hW 6 _ rfl) rfl (hb hby at_103) (by decide) (by decide) (fun T30 h30 x30 g_x30 S30 J30 Sf30 E30 D30 => ?_)
    have lt_x30 := E30.lt
    have ga_x30 : Z.heap.size ≤ x30 := Nat.le_trans S29.le (Nat.le_of_eq g_x30.symm)
    have F31 : Fld Z h30 x30 "java/lang/String" "coder" "B" (.int 0) := D30 (Or.inr (hW 30 _ rfl)) (ty := .byte) (by decide)
    have F32 : Fld Z h30 x30 "java/lang/String" "value" "[B" .null := D30 (Or.inr (hW 32 _ rfl)) (ty := (.array .byte)) (by decide)
    show G T30 (mkF m 106 #[iv q0, iv 0, rv x23, rv kl, .unset, .unset] [(.ref x30)])
    refine hG.st (fun t q => XS.dup S30.here hx rfl (hb hby at_106) rfl rfl (XS.aloadN S30.here hx rfl (hb hby at_107) rfl rfl q)) ?_
    show G T30 (mkF m 108 #[iv q0, iv 0, rv x23, rv kl, .unset, .unset] [(.ref x23), (.ref x30), (.ref x30)])
    have V33 := J30.arv V28 nin0
    have hp34 : ∀ c ∈ ([(108 : Int32), (97 : Int32), (98 : Int32), (111 : Int32), (114 : Int32)] : List Int32), ¬ c < 0 ∧ ¬ (255 : Int32) < c := by
      intro c hc
      simp only [List.mem_cons, List.not_mem_nil, or_false] at hc
      rcases hc with rfl | rfl | rfl | rfl | rfl
      · decide
      · decide
      · decide
      · decide
      · decide
    refine Own.Sit.newStr hG S30 hx hWs hCm (hW 5 _ rfl) (hW 7 _ rfl) (hW 8 _ rfl) (cs := ([(108 : Int32), (97 : Int32), (98 : Int32), (111 : Int32), (114 : Int32)] : List Int32)) ga_x30 Own.safe0 E30 F32 F31 V33 rfl (Nat.le_of_ble_eq_true rfl) (Nat.le_of_ble_eq_true rfl) hp34 (nn := 5) (Nat.le_of_ble_eq_true rfl) rfl (hz _ rfl) (rest := [(.ref x30)]) rfl (W := 1) (by show 2 * 0 + _ ≤ _; exact Nat.le_of_eq rfl) (hb hby at_108) (by decide) (by decide) (by decide) (by decide) (fun T35 h35 y35 S35 J35 u35 St35 => ?_)
    show G T35 (mkF m 111 #[iv q0, iv 0, rv x23, rv kl, .unset, .unset] [(.ref x30)])
    refine hG.st (fun t q => XS.astore S35.here hx rfl (hb hby at_111) rfl rfl (l' := #[iv q0, iv 0, rv x23, rv kl, rv x30, .unset]) rfl (XS.aload S35.here hx rfl (hb hby at_113) rfl rfl q)) ?_
    show G T35 (mkF m 115 #[iv q0, iv 0, rv x23, rv kl, rv x30, .unset] [(.ref x30)])
    refine Own.Sit.callS hG S35 hx (as := [(.ref x30)]) (hW 33 _ rfl) (hW 34 _ rfl) (hW 2 _ rfl) (hW 35 _ rfl) (by decide) (own_of1 l Z a0 H x30 N y35 h35 S35.old St35) own_pde9aff6 rfl rfl (hz _ rfl) (rest := []) rfl (W := 0) (by show 2 * 0 + _ ≤ _; exact Nat.le_of_eq rfl) (hb hby at_115) (by decide) (by decide) (by decide) (by decide) (ws := []) (fun _ _ q => q.1) sf0 (fun v36 vm36 T36 h36 S36 C36 q36 => ?_)
    obtain ⟨K36, rfl⟩ := q36
    have J36 : Own.Stp Z ([] : List (String × Nat)) vm0 h35 vm36 h36 [] := ⟨K36, C36⟩
    show G T36 (mkF m 118 #[iv q0, iv 0, rv x23, rv kl, rv x30, .unset] [(.ref kl)])
    refine hG.st (fun t q => XS.astore S36.here hx rfl (hb hby at_118) rfl rfl (l' := #[iv q0, iv 0, rv x23, rv kl, rv x30, rv kl]) rfl (XS.aload S36.here hx rfl (hb hby at_120) rfl rfl (XS.aloadN S36.here hx rfl (hb hby at_122) rfl rfl q))) ?_
    show G T36 (mkF m 123 #[iv q0, iv 0, rv x23, rv kl, rv x30, rv kl] [(.ref kl), (.ref kl)])
    refine Own.Sit.acmp hG S36 hx (g := (mkF m 123 #[iv q0, iv 0, rv x23, rv kl, rv x30, rv kl] [(.ref kl), (.ref kl)])) rfl rfl rfl (pc0 := 123) (pc' := 126) (same := true) rfl (hb hby at_123) rfl (decide_eq_true rfl) (by decide) (by decide) ?_
    show G T36 (mkF m 126 #[iv q0, iv 0, rv x23, rv kl, rv x30, rv kl] [])
    refine hG.st (fun t q => XS.aload S36.here hx rfl (hb hby at_126) rfl rfl q) ?_
    show G T36 (mkF m 128 #[iv q0, iv 0, rv x23, rv kl, rv x30, rv kl] [(.ref kl)])
    have F37 := Fkl.ext S36.old
    have E38 := Ekl.ext S36.old
    refine Own.Sit.callV hG S36 hx (as := []) (hW 64 _ rfl) (hW 65 _ rfl) (hW 67 _ rfl) (hW 66 _ rfl) (hW 2 _ rfl) (hW 68 _ rfl) (by decide) E38 (own_tostr l Z a0 H kl sl h36 S36.old F37) own_pdaf964f rfl rfl (hz _ rfl) (rest := []) rfl (W := 0) (by show 2 * 0 + _ ≤ _; exact Nat.le_of_eq rfl) (hb hby at_128) (by decide) (by decide) (by decide) (by decide) (ws := []) (fun _ _ q => q.1) sf0 (fun v39 vm39 T39 h39 S39 C39 q39 => ?_)
    obtain ⟨K39, rfl⟩ := q39
    have J39 : Own.Stp Z ([] : List (String × Nat)) vm36 h36 vm39 h39 [] := ⟨K39, C39⟩
    show G T39 (mkF m 131 #[iv q0, iv 0, rv x23, rv kl, rv x30, rv kl] [(.ref sl)])
    refine hG.st (fun t q => XS.aload S39.here hx rfl (hb hby at_131) rfl rfl q) ?_
    show G T39 (mkF m 133 #[iv q0, iv 0, rv x23, rv kl, rv x30, rv kl] [(.ref x30), (.ref sl)])
    have St40 := Sts.ext S39.old
    have J41 : Own.Stp Z ([] : List (String × Nat)) vm0 h35 vm39 h39 [] := Own.Stp.trans J36 J39 (all0) all0
    have St42 := J41.str St35 nin0 nin0
    refine Own.Sit.strEq hG S39 hx hWe hCm (hW 5 _ rfl) (hW 69 _ rfl) (hW 55 _ rfl) (hW 57 _ rfl) (hW 56 _ rfl) St40 St42 rfl (hz _ rfl) (rest := []) rfl (W := 0) (by show 2 * 0 + _ ≤ _; exact Nat.le_of_eq rfl) (hb hby at_133) (by decide) (by decide) (by decide) (by decide) (fun T43 S43 => ?_)
    show G T43 (mkF m 136 #[iv q0, iv 0, rv x23, rv kl, rv x30, rv kl] [(.int (if ([108, 97, 98, 111, 114] : List Int32) = ([(108 : Int32), (97 : Int32), (98 : Int32), (111 : Int32), (114 : Int32)] : List Int32) then 1 else 0))])
    refine hG.st (fun t q => XS.ifNo S43.here hx rfl (hb hby at_136) rfl ((if0 _ _).trans (feq (by decide : ¬ ((if ([108, 97, 98, 111, 114] : List Int32) = ([(108 : Int32), (97 : Int32), (98 : Int32), (111 : Int32), (114 : Int32)] : List Int32) then 1 else 0) = (0 : Int32)))).1) (XS.iconst S43.here hx rfl (hb hby at_139) (XS.goto S43.here hx rfl (pc0 := 140) (pc' := 144) rfl (hb hby at_140) (by decide) (by decide) q))) ?_
    show G T43 (mkF m 144 #[iv q0, iv 0, rv x23, rv kl, rv x30, rv kl] [(.int 1)])
    have J44 : Own.Stp Z ([] : List (String × Nat)) vm0 h0 vm0 h24 [] := Own.Stp.trans J23 J24 (all0) (allS (Or.inr (Nat.le_of_eq g_x23.symm)) all0)
    have J45 : Own.Stp Z ([] : List (String × Nat)) vm0 h0 vm0 h25 [] := Own.Stp.trans J44 J25 (all0) (allS (Or.inr (Nat.le_of_eq g_x23.symm)) all0)
    have J46 : Own.Stp Z ([] : List (String × Nat)) vm0 h0 vm0 h26 [] := Own.Stp.trans J45 J26 (all0) (allS (Or.inr (Nat.le_of_eq g_x23.symm)) all0)
    have J47 : Own.Stp Z ([] : List (String × Nat)) vm0 h0 vm0 h27 [] := Own.Stp.trans J46 J27 (all0) (allS (Or.inr (Nat.le_of_eq g_x23.symm)) all0)
    have J48 : Own.Stp Z ([] : List (String × Nat)) vm0 h0 vm0 h28 [] := Own.Stp.trans J47 J28 (all0) (allS (Or.inr (Nat.le_of_eq g_x23.symm)) all0)
    have J49 : Own.Stp Z ([] : List (String × Nat)) vm0 h0 vm0 h30 [] := Own.Stp.trans J48 J30 (all0) all0
    have J50 : Own.Stp Z ([] : List (String × Nat)) vm0 h0 vm0 h35 [] := Own.Stp.trans J49 J35 (all0) (allS (Or.inr (Nat.le_trans J48.1.1 (Nat.le_of_eq g_x30.symm))) all0)
    have J51 : Own.Stp Z ([] : List (String × Nat)) vm0 h0 vm36 h36 [] := Own.Stp.trans J50 J36 (all0) all0
    have J52 : Own.Stp Z ([] : List (String × Nat)) vm0 h0 vm39 h39 [] := Own.Stp.trans J51 J39 (all0) all0
    exact Own.Sit.retN hR S43 hx (t := .boolean) hret (by simp) (hb hby at_144) (by decide) (by decide) ⟨J52.1, rfl⟩
  ·
    refine hG.st (fun t q => XS.ifNo S0.here hx rfl (hb hby at_3) rfl ((if0 _ _).trans (feq hc3).1) (XS.iconst S0.here hx rfl (hb hby at_6) (XS.goto S0.here hx rfl (pc0 := 7) (pc' := 11) rfl (hb hby at_7) (by decide) (by decide) (XS.istoreN S0.here hx rfl (hb hby at_11) rfl (l' := #[iv q0, iv 1, .unset, .unset, .unset, .unset]) rfl (XS.iloadN S0.here hx rfl (hb hby at_12) rfl (XS.ifNo S0.here hx rfl (hb hby at_13) rfl ((if0 _ _).trans (feq (by decide : ¬ ((1 : Int32) = (0 : Int32)))).1) q)))))) ?_
    show G T0 (mkF m 16 #[iv q0, iv 1, .unset, .unset, .unset, .unset] [])
    refine hG.st (fun t q => XS.bipush S0.here hx rfl (hb hby at_16) q) ?_
    show G T0 (mkF m 18 #[iv q0, iv 1, .unset, .unset, .unset, .unset] [(.int 8)])
    refine Own.Sit.newP hG S0 hx (aty := .char) (hW 0 _ rfl) rfl (hb hby at_18) rfl (by decide) (cap := 8) (by decide) (by decide) (by decide) (by decide) (fun T53 h53 x53 k53 g_x53 S53 J53 Sf53 (V53 : Arv Z h53 x53 k53 .char (8 : Int32) [(.int 0), (.int 0), (.int 0), (.int 0), (.int 0), (.int 0), (.int 0), (.int 0)] (.int 0)) => ?_)
    have lt_x53 := V53.lt
    have ga_x53 : Z.heap.size ≤ x53 := Nat.le_trans S0.le (Nat.le_of_eq g_x53.symm)
    show G T53 (mkF m 20 #[iv q0, iv 1, .unset, .unset, .unset, .unset] [(.ref x53)])
    refine hG.st (fun t q => XS.dup S53.here hx rfl (hb hby at_20) rfl rfl (XS.iconst S53.here hx rfl (hb hby at_21) (XS.bipush S53.here hx rfl (hb hby at_22) q))) ?_
    show G T53 (mkF m 24 #[iv q0, iv 1, .unset, .unset, .unset, .unset] [(.int 110), (.int 0), (.ref x53), (.ref x53)])
    refine Own.Sit.stC hG S53 hx V53 ga_x53 ⟨by decide, by decide⟩ 0 rfl (Nat.le_of_ble_eq_true rfl) rfl rfl (hb hby at_24) (fun T54 h54 S54 J54 (V54 : Arv Z h54 x53 k53 .char (8 : Int32) [(.int 110), (.int 0), (.int 0), (.int 0), (.int 0), (.int 0), (.int 0), (.int 0)] (.int 0)) => ?_)
    show G T54 (mkF m 25 #[iv q0, iv 1, .unset, .unset, .unset, .unset] [(.ref x53)])
    refine hG.st (fun t q => XS.dup S54.here hx rfl (hb hby at_25) rfl rfl (XS.iconst S54.here hx rfl (hb hby at_26) (XS.bipush S54.here hx rfl (hb hby at_27) q))) ?_
    show G T54 (mkF m 29 #[iv q0, iv 1, .unset, .unset, .unset, .unset] [(.int 111), (.int 1), (.ref x53), (.ref x53)])
    refine Own.Sit.stC hG S54 hx V54 ga_x53 ⟨by decide, by decide⟩ 1 rfl (Nat.le_of_ble_eq_true rfl) rfl rfl (hb hby at_29) (fun T55 h55 S55 J55 (V55 : Arv Z h55 x53 k53 .char (8 : Int32) [(.int 110), (.int 111), (.int 0), (.int 0), (.int 0), (.int 0), (.int 0), (.int 0)] (.int 0)) => ?_)
    show G T55 (mkF m 30 #[iv q0, iv 1, .unset, .unset, .unset, .unset] [(.ref x53)])
    refine hG.st (fun t q => XS.dup S55.here hx rfl (hb hby at_30) rfl rfl (XS.iconst S55.here hx rfl (hb hby at_31) (XS.bipush S55.here hx rfl (hb hby at_32) q))) ?_
    show G T55 (mkF m 34 #[iv q0, iv 1, .unset, .unset, .unset, .unset] [(.int 110), (.int 2), (.ref x53), (.ref x53)])
    refine Own.Sit.stC hG S55 hx V55 ga_x53 ⟨by decide, by decide⟩ 2 rfl (Nat.le_of_ble_eq_true rfl) rfl rfl (hb hby at_34) (fun T56 h56 S56 J56 (V56 : Arv Z h56 x53 k53 .char (8 : Int32) [(.int 110), (.int 111), (.int 110), (.int 0), (.int 0), (.int 0), (.int 0), (.int 0)] (.int 0)) => ?_)
    show G T56 (mkF m 35 #[iv q0, iv 1, .unset, .unset, .unset, .unset] [(.ref x53)])
    refine hG.st (fun t q => XS.dup S56.here hx rfl (hb hby at_35) rfl rfl (XS.iconst S56.here hx rfl (hb hby at_36) (XS.bipush S56.here hx rfl (hb hby at_37) q))) ?_
    show G T56 (mkF m 39 #[iv q0, iv 1, .unset, .unset, .unset, .unset] [(.int 108), (.int 3), (.ref x53), (.ref x53)])
    refine Own.Sit.stC hG S56 hx V56 ga_x53 ⟨by decide, by decide⟩ 3 rfl (Nat.le_of_ble_eq_true rfl) rfl rfl (hb hby at_39) (fun T57 h57 S57 J57 (V57 : Arv Z h57 x53 k53 .char (8 : Int32) [(.int 110), (.int 111), (.int 110), (.int 108), (.int 0), (.int 0), (.int 0), (.int 0)] (.int 0)) => ?_)
    show G T57 (mkF m 40 #[iv q0, iv 1, .unset, .unset, .unset, .unset] [(.ref x53)])
    refine hG.st (fun t q => XS.dup S57.here hx rfl (hb hby at_40) rfl rfl (XS.iconst S57.here hx rfl (hb hby at_41) (XS.bipush S57.here hx rfl (hb hby at_42) q))) ?_
    show G T57 (mkF m 44 #[iv q0, iv 1, .unset, .unset, .unset, .unset] [(.int 97), (.int 4), (.ref x53), (.ref x53)])
    refine Own.Sit.stC hG S57 hx V57 ga_x53 ⟨by decide, by decide⟩ 4 rfl (Nat.le_of_ble_eq_true rfl) rfl rfl (hb hby at_44) (fun T58 h58 S58 J58 (V58 : Arv Z h58 x53 k53 .char (8 : Int32) [(.int 110), (.int 111), (.int 110), (.int 108), (.int 97), (.int 0), (.int 0), (.int 0)] (.int 0)) => ?_)
    show G T58 (mkF m 45 #[iv q0, iv 1, .unset, .unset, .unset, .unset] [(.ref x53)])
    refine hG.st (fun t q => XS.dup S58.here hx rfl (hb hby at_45) rfl rfl (XS.iconst S58.here hx rfl (hb hby at_46) (XS.bipush S58.here hx rfl (hb hby at_47) q))) ?_
    show G T58 (mkF m 49 #[iv q0, iv 1, .unset, .unset, .unset, .unset] [(.int 98), (.int 5), (.ref x53), (.ref x53)])
    refine Own.Sit.stC hG S58 hx V58 ga_x53 ⟨by decide, by decide⟩ 5 rfl (Nat.le_of_ble_eq_true rfl) rfl rfl (hb hby at_49) (fun T59 h59 S59 J59 (V59 : Arv Z h59 x53 k53 .char (8 : Int32) [(.int 110), (.int 111), (.int 110), (.int 108), (.int 97), (.int 98), (.int 0), (.int 0)] (.int 0)) => ?_)
    show G T59 (mkF m 50 #[iv q0, iv 1, .unset, .unset, .unset, .unset] [(.ref x53)])
    refine hG.st (fun t q => XS.dup S59.here hx rfl (hb hby at_50) rfl rfl (XS.bipush S59.here hx rfl (hb hby at_51) (XS.bipush S59.here hx rfl (hb hby at_53) q))) ?_
    show G T59 (mkF m 55 #[iv q0, iv 1, .unset, .unset, .unset, .unset] [(.int 111), (.int 6), (.ref x53), (.ref x53)])
    refine Own.Sit.stC hG S59 hx V59 ga_x53 ⟨by decide, by decide⟩ 6 rfl (Nat.le_of_ble_eq_true rfl) rfl rfl (hb hby at_55) (fun T60 h60 S60 J60 (V60 : Arv Z h60 x53 k53 .char (8 : Int32) [(.int 110), (.int 111), (.int 110), (.int 108), (.int 97), (.int 98), (.int 111), (.int 0)] (.int 0)) => ?_)
    show G T60 (mkF m 56 #[iv q0, iv 1, .unset, .unset, .unset, .unset] [(.ref x53)])
    refine hG.st (fun t q => XS.dup S60.here hx rfl (hb hby at_56) rfl rfl (XS.bipush S60.here hx rfl (hb hby at_57) (XS.bipush S60.here hx rfl (hb hby at_59) q))) ?_
    show G T60 (mkF m 61 #[iv q0, iv 1, .unset, .unset, .unset, .unset] [(.int 114), (.int 7), (.ref x53), (.ref x53)])
    refine Own.Sit.stC hG S60 hx V60 ga_x53 ⟨by decide, by decide⟩ 7 rfl (Nat.le_of_ble_eq_true rfl) rfl rfl (hb hby at_61) (fun T61 h61 S61 J61 (V61 : Arv Z h61 x53 k53 .char (8 : Int32) [(.int 110), (.int 111), (.int 110), (.int 108), (.int 97), (.int 98), (.int 111), (.int 114)] (.int 0)) => ?_)
    show G T61 (mkF m 62 #[iv q0, iv 1, .unset, .unset, .unset, .unset] [(.ref x53)])
    refine hG.st (fun t q => XS.astoreN S61.here hx rfl (hb hby at_62) rfl rfl (l' := #[iv q0, iv 1, rv x53, .unset, .unset, .unset]) rfl q) ?_
    show G T61 (mkF m 63 #[iv q0, iv 1, rv x53, .unset, .unset, .unset] [])
    refine Own.Sit.getS hG S61 hx (host := "") (Or.inl (hW 70 _ rfl)) Via.refl (Sn.ext S61.old) rfl (hb hby at_63) (fun T62 S62 => ?_)
    show G T62 (mkF m 66 #[iv q0, iv 1, rv x53, .unset, .unset, .unset] [(.ref kn)])
    refine hG.st (fun t q => XS.astoreN S62.here hx rfl (hb hby at_66) rfl rfl (l' := #[iv q0, iv 1, rv x53, rv kn, .unset, .unset]) rfl (XS.goto S62.here hx rfl (pc0 := 67) (pc' := 103) rfl (hb hby at_67) (by decide) (by decide) q)) ?_
    show G T62 (mkF m 103 #[iv q0, iv 1, rv x53, rv kn, .unset, .unset] [])
    refine Own.Sit.newO hG S62 hx (hW 4 _ rfl) (hW 5 _ rfl) (hW 6 _ rfl) rfl (hb hby at_103) (by decide) (by decide) (fun T63 h63 x63 g_x63 S63 J63 Sf63 E63 D63 => ?_)
    have lt_x63 := E63.lt
    have ga_x63 : Z.heap.size ≤ x63 := Nat.le_trans S62.le (Nat.le_of_eq g_x63.symm)
    have F64 : Fld Z h63 x63 "java/lang/String" "coder" "B" (.int 0) := D63 (Or.inr (hW 30 _ rfl)) (ty := .byte) (by decide)
    have F65 : Fld Z h63 x63 "java/lang/String" "value" "[B" .null := D63 (Or.inr (hW 32 _ rfl)) (ty := (.array .byte)) (by decide)
    show G T63 (mkF m 106 #[iv q0, iv 1, rv x53, rv kn, .unset, .unset] [(.ref x63)])
    refine hG.st (fun t q => XS.dup S63.here hx rfl (hb hby at_106) rfl rfl (XS.aloadN S63.here hx rfl (hb hby at_107) rfl rfl q)) ?_
    show G T63 (mkF m 108 #[iv q0, iv 1, rv x53, rv kn, .unset, .unset] [(.ref x53), (.ref x63), (.ref x63)])
    have V66 := J63.arv V61 nin0
    have hp67 : ∀ c ∈ ([(110 : Int32), (111 : Int32), (110 : Int32), (108 : Int32), (97 : Int32), (98 : Int32), (111 : Int32), (114 : Int32)] : List Int32), ¬ c < 0 ∧ ¬ (255 : Int32) < c := by
      intro c hc
      simp only [List.mem_cons, List.not_mem_nil, or_false] at hc
      rcases hc with rfl | rfl | rfl | rfl | rfl | rfl | rfl | rfl
      · decide
      · decide
      · decide
      · decide
      · decide
      · decide
      · decide
      · decide
    refine Own.Sit.newStr hG S63 hx hWs hCm (hW 5 _ rfl) (hW 7 _ rfl) (hW 8 _ rfl) (cs := ([(110 : Int32), (111 : Int32), (110 : Int32), (108 : Int32), (97 : Int32), (98 : Int32), (111 : Int32), (114 : Int32)] : List Int32)) ga_x63 Own.safe0 E63 F65 F64 V66 rfl (Nat.le_of_ble_eq_true rfl) (Nat.le_of_ble_eq_true rfl) hp67 (nn := 8) (Nat.le_of_ble_eq_true rfl) rfl (hz _ rfl) (rest := [(.ref x63)]) rfl (W := 1) (by show 2 * 0 + _ ≤ _; exact Nat.le_of_eq rfl) (hb hby at_108) (by decide) (by decide) (by decide) (by decide) (fun T68 h68 y68 S68 J68 u68 St68 => ?_)
    show G T68 (mkF m 111 #[iv q0, iv 1, rv x53, rv kn, .unset, .unset] [(.ref x63)])
    refine hG.st (fun t q => XS.astore S68.here hx rfl (hb hby at_111) rfl rfl (l' := #[iv q0, iv 1, rv x53, rv kn, rv x63, .unset]) rfl (XS.aload S68.here hx rfl (hb hby at_113) rfl rfl q)) ?_
    show G T68 (mkF m 115 #[iv q0, iv 1, rv x53, rv kn, rv x63, .unset] [(.ref x63)])
    refine Own.Sit.callS hG S68 hx (as := [(.ref x63)]) (hW 33 _ rfl) (hW 34 _ rfl) (hW 2 _ rfl) (hW 35 _ rfl) (by decide) (own_of2 l Z a0 H x63 N y68 h68 S68.old St68) own_pde9aff6 rfl rfl (hz _ rfl) (rest := []) rfl (W := 0) (by show 2 * 0 + _ ≤ _; exact Nat.le_of_eq rfl) (hb hby at_115) (by decide) (by decide) (by decide) (by decide) (ws := []) (fun _ _ q => q.1) sf0 (fun v69 vm69 T69 h69 S69 C69 q69 => ?_)
    obtain ⟨K69, rfl⟩ := q69
    have J69 : Own.Stp Z ([] : List (String × Nat)) vm0 h68 vm69 h69 [] := ⟨K69, C69⟩
    show G T69 (mkF m 118 #[iv q0, iv 1, rv x53, rv kn, rv x63, .unset] [(.ref kn)])
    refine hG.st (fun t q => XS.astore S69.here hx rfl (hb hby at_118) rfl rfl (l' := #[iv q0, iv 1, rv x53, rv kn, rv x63, rv kn]) rfl (XS.aload S69.here hx rfl (hb hby at_120) rfl rfl (XS.aloadN S69.here hx rfl (hb hby at_122) rfl rfl q))) ?_
    show G T69 (mkF m 123 #[iv q0, iv 1, rv x53, rv kn, rv x63, rv kn] [(.ref kn), (.ref kn)])
    refine Own.Sit.acmp hG S69 hx (g := (mkF m 123 #[iv q0, iv 1, rv x53, rv kn, rv x63, rv kn] [(.ref kn), (.ref kn)])) rfl rfl rfl (pc0 := 123) (pc' := 126) (same := true) rfl (hb hby at_123) rfl (decide_eq_true rfl) (by decide) (by decide) ?_
    show G T69 (mkF m 126 #[iv q0, iv 1, rv x53, rv kn, rv x63, rv kn] [])
    refine hG.st (fun t q => XS.aload S69.here hx rfl (hb hby at_126) rfl rfl q) ?_
    show G T69 (mkF m 128 #[iv q0, iv 1, rv x53, rv kn, rv x63, rv kn] [(.ref kn)])
    have F70 := Fkn.ext S69.old
    have E71 := Ekn.ext S69.old
    refine Own.Sit.callV hG S69 hx (as := []) (hW 64 _ rfl) (hW 65 _ rfl) (hW 67 _ rfl) (hW 66 _ rfl) (hW 2 _ rfl) (hW 68 _ rfl) (by decide) E71 (own_tostr l Z a0 H kn sn h69 S69.old F70) own_pdaf964f rfl rfl (hz _ rfl) (rest := []) rfl (W := 0) (by show 2 * 0 + _ ≤ _; exact Nat.le_of_eq rfl) (hb hby at_128) (by decide) (by decide) (by decide) (by decide) (ws := []) (fun _ _ q => q.1) sf0 (fun v72 vm72 T72 h72 S72 C72 q72 => ?_)
    obtain ⟨K72, rfl⟩ := q72
    have J72 : Own.Stp Z ([] : List (String × Nat)) vm69 h69 vm72 h72 [] := ⟨K72, C72⟩
    show G T72 (mkF m 131 #[iv q0, iv 1, rv x53, rv kn, rv x63, rv kn] [(.ref sn)])
    refine hG.st (fun t q => XS.aload S72.here hx rfl (hb hby at_131) rfl rfl q) ?_
    show G T72 (mkF m 133 #[iv q0, iv 1, rv x53, rv kn, rv x63, rv kn] [(.ref x63), (.ref sn)])
    have St73 := Stn.ext S72.old
    have J74 : Own.Stp Z ([] : List (String × Nat)) vm0 h68 vm72 h72 [] := Own.Stp.trans J69 J72 (all0) all0
    have St75 := J74.str St68 nin0 nin0
    refine Own.Sit.strEq hG S72 hx hWe hCm (hW 5 _ rfl) (hW 69 _ rfl) (hW 55 _ rfl) (hW 57 _ rfl) (hW 56 _ rfl) St73 St75 rfl (hz _ rfl) (rest := []) rfl (W := 0) (by show 2 * 0 + _ ≤ _; exact Nat.le_of_eq rfl) (hb hby at_133) (by decide) (by decide) (by decide) (by decide) (fun T76 S76 => ?_)
    show G T76 (mkF m 136 #[iv q0, iv 1, rv x53, rv kn, rv x63, rv kn] [(.int (if ([110, 111, 110, 108, 97, 98, 111, 114] : List Int32) = ([(110 : Int32), (111 : Int32), (110 : Int32), (108 : Int32), (97 : Int32), (98 : Int32), (111 : Int32), (114 : Int32)] : List Int32) then 1 else 0))])
    refine hG.st (fun t q => XS.ifNo S76.here hx rfl (hb hby at_136) rfl ((if0 _ _).trans (feq (by decide : ¬ ((if ([110, 111, 110, 108, 97, 98, 111, 114] : List Int32) = ([(110 : Int32), (111 : Int32), (110 : Int32), (108 : Int32), (97 : Int32), (98 : Int32), (111 : Int32), (114 : Int32)] : List Int32) then 1 else 0) = (0 : Int32)))).1) (XS.iconst S76.here hx rfl (hb hby at_139) (XS.goto S76.here hx rfl (pc0 := 140) (pc' := 144) rfl (hb hby at_140) (by decide) (by decide) q))) ?_
    show G T76 (mkF m 144 #[iv q0, iv 1, rv x53, rv kn, rv x63, rv kn] [(.int 1)])
    have J77 : Own.Stp Z ([] : List (String × Nat)) vm0 h0 vm0 h54 [] := Own.Stp.trans J53 J54 (all0) (allS (Or.inr (Nat.le_of_eq g_x53.symm)) all0)
    have J78 : Own.Stp Z ([] : List (String × Nat)) vm0 h0 vm0 h55 [] := Own.Stp.trans J77 J55 (all0) (allS (Or.inr (Nat.le_of_eq g_x53.symm)) all0)
    have J79 : Own.Stp Z ([] : List (String × Nat)) vm0 h0 vm0 h56 [] := Own.Stp.trans J78 J56 (all0) (allS (Or.inr (Nat.le_of_eq g_x53.symm)) all0)
    have J80 : Own.Stp Z ([] : List (String × Nat)) vm0 h0 vm0 h57 [] := Own.Stp.trans J79 J57 (all0) (allS (Or.inr (Nat.le_of_eq g_x53.symm)) all0)
    have J81 : Own.Stp Z ([] : List (String × Nat)) vm0 h0 vm0 h58 [] := Own.Stp.trans J80 J58 (all0) (allS (Or.inr (Nat.le_of_eq g_x53.symm)) all0)
    have J82 : Own.Stp Z ([] : List (String × Nat)) vm0 h0 vm0 h59 [] := Own.Stp.trans J81 J59 (all0) (allS (Or.inr (Nat.le_of_eq g_x53.symm)) all0)
    have J83 : Own.Stp Z ([] : List (String × Nat)) vm0 h0 vm0 h60 [] := Own.Stp.trans J82 J60 (all0) (allS (Or.inr (Nat.le_of_eq g_x53.symm)) all0)
    have J84 : Own.Stp Z ([] : List (String × Nat)) vm0 h0 vm0 h61 [] := Own.Stp.trans J83 J61 (all0) (allS (Or.inr (Nat.le_of_eq g_x53.symm)) all0)
    have J85 : Own.Stp Z ([] : List (String × Nat)) vm0 h0 vm0 h63 [] := Own.Stp.trans J84 J63 (all0) all0
    have J86 : Own.Stp Z ([] : List (String × Nat)) vm0 h0 vm0 h68 [] := Own.Stp.trans J85 J68 (all0) (allS (Or.inr (Nat.le_trans J84.1.1 (Nat.le_of_eq g_x63.symm))) all0)
    have J87 : Own.Stp Z ([] : List (String × Nat)) vm0 h0 vm69 h69 [] := Own.Stp.trans J86 J69 (all0) all0
    have J88 : Own.Stp Z ([] : List (String × Nat)) vm0 h0 vm72 h72 [] := Own.Stp.trans J87 J72 (all0) all0
    exact Own.Sit.retN hR S76 hx (t := .boolean) hret (by simp) (hb hby at_144) (by decide) (by decide) ⟨J88.1, rfl⟩
set_option maxRecDepth 65536 in
set_option maxHeartbeats 40000000 in
theorem own_comes {Post : Tables → Env → Array Value → State → Outcome → State → Prop} (hpost : ∀ tb e args s v u, (limb_1_1.after args s (.returned v) u = true ∧ limb_1_2.after args s (.returned v) u = true ∧ True) → FrameEnd s (.returned v) u (Jvm.fieldLocs frame_1_writes args s ++ Jvm.arrayLocs frame_1_arrays args s ++ Jvm.staticLocs frame_1_statics s) 16 128 → Post tb e args s (.returned v) u) :
    ArmFor flags0 classFile x code maxLocals ret World_1 tables_1 room_1 Calls_1 rest_1 Pre_1 Post := by
  intro l hfl _ _ p e ha hc hk s m args below hf hA hF happ hP
  obtain ⟨hcalls, hrest, hpre⟩ := hP
  obtain ⟨-, -, -, hnamed, -, -, -, hat⟩ := (Spec.applies_iff hf).mp happ
  obtain ⟨hg, hn⟩ := and_e (Cond.before_iff.mp (show (Jvm.Cond.and given_1 narrow_1).before args s = true from hpre))
  obtain ⟨hcount, hg0⟩ := and_e hg
  have ha0 := hg0
  obtain ⟨w0, rfl⟩ : ∃ w0 : Value, args = #[w0] := by
    have hs : args.size = 1 := by simpa [Cond.value, given_1] using hcount
    obtain ⟨L⟩ := args
    match L, hs with
    | [w0], _ => exact ⟨w0, rfl⟩
  have hw := fun d (hd : d ∈ tables_1) => atoms_spec (ws := Jvm.Cond.code x code maxLocals ret :: tables_1) hat d (List.mem_cons_of_mem _ hd)
  have hW := fun (i : Nat) (w : Jvm.Cond) (e : tables_1[i]? = some w) => hw w (List.mem_of_getElem? e)
  obtain ⟨hsets, hown0⟩ := atoms_of _ (rest_1_c_eq ▸ (show rest_1_c.before _ s = true from hrest))
  have hfit : Fit s := fun {y c} hc i hi => by
    obtain ⟨ha, rfl⟩ := Array.getElem?_eq_some_iff.mp hc
    have q := List.all_eq_true.mp ((Array.all_eq_true_iff_forall_mem.mp hF) _ (Array.getElem_mem ha)) i (List.mem_range.mpr hi)
    simpa [Array.getElem?_eq_getElem hi] using q
  obtain ⟨i0, ea0⟩ := is_v ha0
  obtain rfl : w0 = (.int i0) := Option.some.inj ea0
  have ncs := not_v (Cond.before_iff.mp (hsets _ (List.mem_of_getElem? (i := 2) rfl)))
  obtain ⟨zcs, ecs⟩ := is_v (Cond.before_iff.mp (hsets _ (List.mem_of_getElem? (i := 1) rfl)))
  have hCm : Own.Cmp s := ⟨zcs, Sta.start ecs (Or.inl (hsets _ (List.mem_of_getElem? (i := 0) rfl))), gotF (Cond.eq_ints ecs (Term.int_eval (0))) ncs⟩
  obtain ⟨vsi, esi, rsi⟩ := isR_v (Cond.before_iff.mp (hsets _ (List.mem_of_getElem? (i := 8) rfl)))
  have hSi : Own.Sio s := ⟨vsi, Sta.start esi (Or.inl (hsets _ (List.mem_of_getElem? (i := 7) rfl))), rsi⟩
  have HW : own_Wld s _ := ⟨hw, hCm, hSi⟩
  obtain ⟨nw0, hn1⟩ := and_e hn
  obtain ⟨nw1, hn2⟩ := and_e hn1
  obtain ⟨nw2, hn3⟩ := and_e hn2
  obtain ⟨nw3, hn4⟩ := and_e hn3
  obtain ⟨nw4, hn5⟩ := and_e hn4
  obtain ⟨nw5, hn6⟩ := and_e hn5
  obtain ⟨nw6, hn7⟩ := and_e hn6
  obtain ⟨nw7, hn8⟩ := and_e hn7
  obtain ⟨nw8, hn9⟩ := and_e hn8
  obtain ⟨nw9, hn10⟩ := and_e hn9
  obtain ⟨nw10, hn11⟩ := and_e hn10
  obtain ⟨nw11, hn12⟩ := and_e hn11
  obtain ⟨nw12, hn13⟩ := and_e hn12
  obtain ⟨nw13, hn14⟩ := and_e hn13
  obtain ⟨nw14, hn15⟩ := and_e hn14
  obtain ⟨nw15, hn16⟩ := and_e hn15
  obtain ⟨nw16, hn17⟩ := and_e hn16
  obtain ⟨nw17, hn18⟩ := and_e hn17
  obtain ⟨nw18, hn19⟩ := and_e hn18
  obtain ⟨nw19, hn20⟩ := and_e hn19
  obtain ⟨nw20, hn21⟩ := and_e hn20
  obtain ⟨nw21, hn22⟩ := and_e hn21
  obtain ⟨nw22, hn23⟩ := and_e hn22
  obtain ⟨nw23, hn24⟩ := and_e hn23
  obtain ⟨nw24, hn25⟩ := and_e hn24
  obtain ⟨nw25, hn26⟩ := and_e hn25
  obtain ⟨nw26, hn27⟩ := and_e hn26
  have nw27 := hn27
  obtain ⟨ad1, evad1⟩ := exa_v nw0
  have EXad1 := Exa.start evad1 nw0
  obtain ⟨ad2, evad2⟩ := arr_v nw1
  have EXad2 := Exa.start evad2 nw2
  have ei3 := Own.eqI nw3 (Term.int_eval (2))
  have ei4 := Own.eqR nw4 evad1
  obtain ⟨ad3, evad3⟩ := exa_v nw5
  have EXad3 := Exa.start evad3 nw5
  have ei6 := Own.eqR nw6 evad3
  obtain ⟨ad4, evad4⟩ := exa_v nw7
  have EXad4 := Exa.start evad4 nw7
  have ei8 := Own.eqI nw8 (Term.int_eval (0))
  obtain ⟨ad5, evad5⟩ := arr_v nw9
  have ei10 := Own.eqI nw10 (Term.int_eval (5))
  obtain ⟨ad6, evad6⟩ := exa_v nw11
  have EXad6 := Exa.start evad6 nw11
  have ei12 := Own.eqI nw12 (Term.int_eval (0))
  obtain ⟨ad7, evad7⟩ := arr_v nw13
  have ei14 := Own.eqI nw14 (Term.int_eval (8))
  have ei15 := Own.eqI nw15 (Term.int_eval (108))
  have ei16 := Own.eqI nw16 (Term.int_eval (97))
  have ei17 := Own.eqI nw17 (Term.int_eval (98))
  have ei18 := Own.eqI nw18 (Term.int_eval (111))
  have ei19 := Own.eqI nw19 (Term.int_eval (114))
  have ei20 := Own.eqI nw20 (Term.int_eval (110))
  have ei21 := Own.eqI nw21 (Term.int_eval (111))
  have ei22 := Own.eqI nw22 (Term.int_eval (110))
  have ei23 := Own.eqI nw23 (Term.int_eval (108))
  have ei24 := Own.eqI nw24 (Term.int_eval (97))
  have ei25 := Own.eqI nw25 (Term.int_eval (98))
  have ei26 := Own.eqI nw26 (Term.int_eval (111))
  have ei27 := Own.eqI nw27 (Term.int_eval (114))
  have Sl : Sta s s.heap "com/example/earnline/earnline/core/Item$Kind" "LABOR" "Lcom/example/earnline/earnline/core/Item$Kind;" (.ref ad1) := Sta.start evad1 (Or.inr ⟨(hW 2 _ rfl), (hW 3 _ rfl)⟩)
  have Sn : Sta s s.heap "com/example/earnline/earnline/core/Item$Kind" "NONLABOR" "Lcom/example/earnline/earnline/core/Item$Kind;" (.ref ad3) := Sta.start evad3 (Or.inr ⟨(hW 2 _ rfl), (hW 48 _ rfl)⟩)
  have Sv : Sta s s.heap "com/example/earnline/earnline/core/Item$Kind" "$VALUES" "[Lcom/example/earnline/earnline/core/Item$Kind;" (.ref ad2) := Sta.start evad2 (Or.inr ⟨(hW 2 _ rfl), (hW 40 _ rfl)⟩)
  obtain ⟨kcad2, AVad2⟩ := Own.arvOf (dv := .null) (vs := [(.ref ad1), (.ref ad3)]) hfit evad2 nw1 nw3 (by decide) rfl (by
      intro i hi
      match i, hi with
      | 0, _ => exact ei4
      | 1, _ => exact ei6)
  have Fkl : Fld s s.heap ad1 "com/example/earnline/earnline/core/Item$Kind" "written" "Ljava/lang/String;" (.ref ad4) := Fld.start ((fld_at evad1).symm.trans evad4)
  have Fkn : Fld s s.heap ad3 "com/example/earnline/earnline/core/Item$Kind" "written" "Ljava/lang/String;" (.ref ad6) := Fld.start ((fld_at evad3).symm.trans evad6)
  have STad4 : Own.Str s s.heap ad4 ad5 [108, 97, 98, 111, 114] := Own.strOf hfit evad4 EXad4 ei8 evad5 nw9 nw10 (by decide) (by decide) (by decide) (by
      intro i hi
      match i, hi with
      | 0, _ => exact ei15
      | 1, _ => exact ei16
      | 2, _ => exact ei17
      | 3, _ => exact ei18
      | 4, _ => exact ei19)
  have STad6 : Own.Str s s.heap ad6 ad7 [110, 111, 110, 108, 97, 98, 111, 114] := Own.strOf hfit evad6 EXad6 ei12 evad7 nw13 nw14 (by decide) (by decide) (by decide) (by
      intro i hi
      match i, hi with
      | 0, _ => exact ei20
      | 1, _ => exact ei21
      | 2, _ => exact ei22
      | 3, _ => exact ei23
      | 4, _ => exact ei24
      | 5, _ => exact ei25
      | 6, _ => exact ei26
      | 7, _ => exact ei27)
  have HN : own_En s ad1 ad3 ad2 ad4 ad5 ad6 ad7 _ := ⟨Sl, Sn, Sv, AVad2, EXad2, EXad1, EXad3, Fkl, Fkn, STad4, STad6⟩
  obtain ⟨n, o, h1, h2, h3, _, L, rfl, ⟨⟨-, rfl⟩, N⟩, hq⟩ := own_law l s _ HW (cw := tables_1) i0 HN s.heap ⟨Nat.le_refl _, fun _ _ q => q⟩ p e ha hc hk s m _ below hf ((Spec.applies_iff_loose hf).mp happ).1 ⟨rfl, State.Warmed39.refl s, rfl⟩ trivial
  exact ⟨n, _, h1, h2, h3, hpost _ _ _ _ _ _ ⟨Cond.after_iff.mpr rfl, Cond.after_iff.mpr (eq_i res_at (Term.int_eval (1)) rfl), trivial⟩ ⟨hq.1, hq.2.1, hq.2.2.sift fun y hy => Or.inr (N y hy)⟩⟩
theorem main_1_1 : Claimed_1_1 := own_comes fun _ _ _ _ _ _ h hF => ⟨h.1, hF⟩
theorem main_1_2 : Claimed_1_2 := own_comes fun _ _ _ _ _ _ h hF => ⟨h.2.1, hF⟩
end Jvm.Pilot.@@N@@
namespace Jvm.Pilot.@@N@@
open Jvm Jvm.ClassFile Sem Op Lib Jvm.Free Jvm.Stand Jvm.Pilot.@@N@@.Jvm.D
/-! MADE BY PROGRAM (witnessworld.py) out of the Statement's table words and the real class files: 22 classes; the members and pool entries that the words name. The judged class is class 1, her method 1. -/
namespace start1
open Jvm.ClassFile
def u (s : String) : CpInfo := .utf8 (stringToUtf16 s)
/-- a pool by its gaps: so many unusable entries, then the entry; so many at the end -/
def gap : Nat → List CpInfo → List CpInfo
  | 0, r => r
  | n + 1, r => .unusable :: gap n r
def poolList (es : List (Nat × CpInfo)) (last : Nat) : List CpInfo := es.foldr (fun e r => gap e.1 (e.2 :: r)) (gap last [])
def pool (es : List (Nat × CpInfo)) (last : Nat) : Array CpInfo := ⟨poolList es last⟩
def fileOf (pool : Array CpInfo) (this : Nat) (attrs : Array Attribute := #[]) (ms : Array MethodInfo := #[]) (fl : Nat := 33) (sup : Nat := 0) (ifs : Array Nat := #[]) (fds : Array FieldInfo := #[]) : ClassFile where
  minorVersion := 0
  majorVersion := 65
  constantPool := pool
  accessFlags := fl
  thisClass := this
  superClass := sup
  interfaces := ifs
  fields := fds
  methods := ms
  attributes := attrs
def plain (name : String) (sup : Option ClassId) : Class where
  name := name
  kind := .ordinary
  loader := none
  accessFlags := 33
  super := sup
  interfaces := #[]
  cf := none
  fields := #[]
  methods := #[]
  instanceTypes := #[]
  staticTypes := #[]
  resolved := #[]
  callSites := []
  init := .initialized
  statics := none
  mirror := none

def pool0 : Array CpInfo := pool [(5, u "<init>"), (0, u "()V"), (1, .class_ 10), (1, u "java/lang/Object"), (85, u "clone"), (0, u "()Ljava/lang/Object;")] 26

def k0c0 : Code := { maxStack := 0, maxLocals := 1, code := object_method_1_code, exceptionTable := #[], attributes := #[] }
def k0m0 : Method := { name := "<init>", desc := "()V", sig := { parameters := [], returnType := none }, accessFlags := 1, code := some k0c0 }
def k0m1 : Method := { name := "clone", desc := "()Ljava/lang/Object;", sig := { parameters := [], returnType := some (.object "java/lang/Object") }, accessFlags := 260, code := none }
/-- java/lang/Object -/
def k0 : Class := { plain "java/lang/Object" none with
  accessFlags := 33
  interfaces := #[]
  cf := some (fileOf pool0 8 #[] #[{ accessFlags := 1, nameIndex := 5, descriptorIndex := 6, attributes := #[] }, { accessFlags := 260, nameIndex := 96, descriptorIndex := 97, attributes := #[] }] 33 0 #[] #[])
  fields := #[]
  methods := #[k0m0, k0m1]
  instanceTypes := #[]
  staticTypes := #[]
  resolved := Array.replicate 124 none
  statics := none }

def pool1 : Array CpInfo := pool [(2, .class_ 4), (1, u "java/lang/Object"), (0, u "<init>"), (0, u "()V"), (0, .fieldref 8 9), (0, .class_ 10), (0, .nameAndType 11 12), (0, u "com/example/earnline/earnline/core/Item$Kind"), (0, u "NONLABOR"), (0, u "Lcom/example/earnline/earnline/core/Item$Kind;"), (0, .fieldref 8 14), (0, .nameAndType 15 12), (0, u "LABOR"), (0, .class_ 17), (0, u "java/lang/String"), (0, .methodref 16 19), (0, .nameAndType 5 20), (0, u "([C)V"), (0, .methodref 8 22), (0, .nameAndType 23 24), (0, u "of"), (0, u "(Ljava/lang/String;)Lcom/example/earnline/earnline/core/Item$Kind;"), (0, .methodref 8 26), (0, .nameAndType 27 28), (0, u "toString"), (0, u "()Ljava/lang/String;"), (0, .methodref 16 30), (0, .nameAndType 31 32), (0, u "equals"), (0, u "(Ljava/lang/Object;)Z"), (0, .class_ 34), (0, u "com/example/earnline/earnline/core/KindOfPinLaw"), (2, u "law"), (0, u "(I)Z")] 9

def k1m0 : Method := { name := "<init>", desc := "()V", sig := { parameters := [], returnType := none }, accessFlags := 1, code := none }
def k1c1 : Code := { maxStack := 4, maxLocals := 6, code := code, exceptionTable := #[], attributes := #[] }
def k1m1 : Method := { name := "law", desc := "(I)Z", sig := { parameters := [.int], returnType := some .boolean }, accessFlags := 9, code := some k1c1 }
/-- com/example/earnline/earnline/core/KindOfPinLaw -/
def k1 : Class := { plain "com/example/earnline/earnline/core/KindOfPinLaw" (some 0) with
  accessFlags := 49
  interfaces := #[]
  cf := some (fileOf pool1 33 #[] #[{ accessFlags := 1, nameIndex := 5, descriptorIndex := 6, attributes := #[] }, { accessFlags := 9, nameIndex := 37, descriptorIndex := 38, attributes := #[] }] 49 2 #[] #[])
  fields := #[]
  methods := #[k1m0, k1m1]
  instanceTypes := #[]
  staticTypes := #[]
  resolved := Array.replicate 48 none
  statics := none }

def pool2 : Array CpInfo := pool [(1, .class_ 2), (0, u "java/lang/constant/Constable"), (0, .class_ 4), (0, u "java/lang/Object")] 6

/-- java/lang/constant/Constable -/
def k2 : Class := { plain "java/lang/constant/Constable" (some 0) with
  accessFlags := 1537
  interfaces := #[]
  cf := some (fileOf pool2 1 #[] #[] 1537 3 #[] #[])
  fields := #[]
  methods := #[]
  instanceTypes := #[]
  staticTypes := #[]
  resolved := Array.replicate 11 none
  statics := none }

def pool3 : Array CpInfo := pool [(1, .class_ 2), (0, u "java/lang/Comparable"), (0, .class_ 4), (0, u "java/lang/Object")] 7

/-- java/lang/Comparable -/
def k3 : Class := { plain "java/lang/Comparable" (some 0) with
  accessFlags := 1537
  interfaces := #[]
  cf := some (fileOf pool3 1 #[] #[] 1537 3 #[] #[])
  fields := #[]
  methods := #[]
  instanceTypes := #[]
  staticTypes := #[]
  resolved := Array.replicate 12 none
  statics := none }

def pool4 : Array CpInfo := pool [(1, .class_ 2), (0, u "java/io/Serializable"), (0, .class_ 4), (0, u "java/lang/Object")] 2

/-- java/io/Serializable -/
def k4 : Class := { plain "java/io/Serializable" (some 0) with
  accessFlags := 1537
  interfaces := #[]
  cf := some (fileOf pool4 1 #[] #[] 1537 3 #[] #[])
  fields := #[]
  methods := #[]
  instanceTypes := #[]
  staticTypes := #[]
  resolved := Array.replicate 7 none
  statics := none }

def pool5 : Array CpInfo := pool [(2, .class_ 4), (1, u "java/lang/Enum"), (0, u "name"), (0, u "Ljava/lang/String;"), (2, u "ordinal"), (0, u "I"), (1, .class_ 14), (1, u "java/lang/Object"), (4, u "hash"), (86, .class_ 108), (1, u "java/lang/Enum$EnumDesc"), (2, .class_ 112), (0, u "java/lang/constant/Constable"), (0, .class_ 114), (0, u "java/lang/Comparable"), (0, .class_ 116), (0, u "java/io/Serializable")] 87

/-- java/lang/Enum -/
def k5 : Class := { plain "java/lang/Enum" (some 0) with
  accessFlags := 1057
  interfaces := #[2, 3, 4]
  cf := some (fileOf pool5 2 #[.nestMembers #[106]] #[] 1057 12 #[111, 113, 115] #[{ accessFlags := 18, nameIndex := 5, descriptorIndex := 6, attributes := #[] }, { accessFlags := 18, nameIndex := 9, descriptorIndex := 10, attributes := #[] }, { accessFlags := 2, nameIndex := 19, descriptorIndex := 10, attributes := #[] }])
  fields := #[{ name := "name", type := (.object "java/lang/String"), accessFlags := 18, slot := 0, constantValue := 0 }, { name := "ordinal", type := .int, accessFlags := 18, slot := 1, constantValue := 0 }, { name := "hash", type := .int, accessFlags := 2, slot := 2, constantValue := 0 }]
  methods := #[]
  instanceTypes := #[(.object "java/lang/String"), .int, .int]
  staticTypes := #[]
  resolved := Array.replicate 204 none
  statics := none }

def pool6 : Array CpInfo := pool [(1, .class_ 2), (0, u "com/example/earnline/earnline/core/Item$Kind"), (2, u "LABOR"), (0, u "Lcom/example/earnline/earnline/core/Item$Kind;"), (2, u "NONLABOR"), (0, .fieldref 1 11), (0, .nameAndType 12 13), (0, u "$VALUES"), (0, u "[Lcom/example/earnline/earnline/core/Item$Kind;"), (0, .methodref 15 16), (0, .class_ 13), (0, .nameAndType 17 18), (0, u "clone"), (0, u "()Ljava/lang/Object;"), (1, .class_ 22), (1, u "java/lang/Enum"), (9, u "()Ljava/lang/String;"), (7, .class_ 42), (1, u "java/lang/String"), (2, .fieldref 1 46), (0, .nameAndType 47 48), (0, u "written"), (0, u "Ljava/lang/String;"), (0, .methodref 1 50), (0, .nameAndType 51 52), (0, u "values"), (0, u "()[Lcom/example/earnline/earnline/core/Item$Kind;"), (0, .methodref 40 54), (0, .nameAndType 55 56), (0, u "equals"), (0, u "(Ljava/lang/Object;)Z"), (17, u "(Ljava/lang/String;)Lcom/example/earnline/earnline/core/Item$Kind;"), (3, u "of"), (1, u "toString"), (5, .class_ 87), (0, u "com/example/earnline/earnline/core/Item")] 16

def k6c0 : Code := { maxStack := 1, maxLocals := 0, code := prog_92_method_1_code, exceptionTable := #[], attributes := #[] }
def k6m0 : Method := { name := "values", desc := "()[Lcom/example/earnline/earnline/core/Item$Kind;", sig := { parameters := [], returnType := some (.array (.object "com/example/earnline/earnline/core/Item$Kind")) }, accessFlags := 9, code := some k6c0 }
def k6c1 : Code := { maxStack := 3, maxLocals := 5, code := prog_92_method_4_code, exceptionTable := #[], attributes := #[] }
def k6m1 : Method := { name := "of", desc := "(Ljava/lang/String;)Lcom/example/earnline/earnline/core/Item$Kind;", sig := { parameters := [(.object "java/lang/String")], returnType := some (.object "com/example/earnline/earnline/core/Item$Kind") }, accessFlags := 9, code := some k6c1 }
def k6c2 : Code := { maxStack := 1, maxLocals := 1, code := prog_92_method_5_code, exceptionTable := #[], attributes := #[] }
def k6m2 : Method := { name := "toString", desc := "()Ljava/lang/String;", sig := { parameters := [], returnType := some (.object "java/lang/String") }, accessFlags := 1, code := some k6c2 }
/-- com/example/earnline/earnline/core/Item$Kind -/
def k6 : Class := { plain "com/example/earnline/earnline/core/Item$Kind" (some 5) with
  accessFlags := 16433
  interfaces := #[]
  cf := some (fileOf pool6 1 #[.nestHost 86] #[{ accessFlags := 9, nameIndex := 51, descriptorIndex := 52, attributes := #[] }, { accessFlags := 9, nameIndex := 78, descriptorIndex := 74, attributes := #[] }, { accessFlags := 1, nameIndex := 80, descriptorIndex := 32, attributes := #[] }] 16433 20 #[] #[{ accessFlags := 16409, nameIndex := 5, descriptorIndex := 6, attributes := #[] }, { accessFlags := 16409, nameIndex := 9, descriptorIndex := 6, attributes := #[] }, { accessFlags := 18, nameIndex := 47, descriptorIndex := 48, attributes := #[] }, { accessFlags := 4122, nameIndex := 12, descriptorIndex := 13, attributes := #[] }])
  fields := #[{ name := "LABOR", type := (.object "com/example/earnline/earnline/core/Item$Kind"), accessFlags := 16409, slot := 0, constantValue := 0 }, { name := "NONLABOR", type := (.object "com/example/earnline/earnline/core/Item$Kind"), accessFlags := 16409, slot := 1, constantValue := 0 }, { name := "written", type := (.object "java/lang/String"), accessFlags := 18, slot := 3, constantValue := 0 }, { name := "$VALUES", type := (.array (.object "com/example/earnline/earnline/core/Item$Kind")), accessFlags := 4122, slot := 2, constantValue := 0 }]
  methods := #[k6m0, k6m1, k6m2]
  instanceTypes := #[(.object "java/lang/String"), .int, .int, (.object "java/lang/String")]
  staticTypes := #[(.object "com/example/earnline/earnline/core/Item$Kind"), (.object "com/example/earnline/earnline/core/Item$Kind"), (.array (.object "com/example/earnline/earnline/core/Item$Kind"))]
  resolved := Array.replicate 104 none
  statics := some 0 }

def pool7 : Array CpInfo := pool [(2, .class_ 4), (1, u "java/lang/CharSequence"), (42, .class_ 48), (0, u "java/lang/CharSequence$1CodePointIterator"), (10, .class_ 60), (0, u "java/lang/CharSequence$1CharIterator"), (5, .class_ 67), (0, u "java/lang/Object")] 63

/-- java/lang/CharSequence -/
def k7 : Class := { plain "java/lang/CharSequence" (some 0) with
  accessFlags := 1537
  interfaces := #[]
  cf := some (fileOf pool7 2 #[.nestMembers #[47, 59]] #[] 1537 66 #[] #[])
  fields := #[]
  methods := #[]
  instanceTypes := #[]
  staticTypes := #[]
  resolved := Array.replicate 131 none
  statics := none }

def pool8 : Array CpInfo := pool [(1, .class_ 2), (0, u "java/lang/constant/ConstantDesc"), (0, .class_ 4), (0, u "java/lang/Object")] 32

/-- java/lang/constant/ConstantDesc -/
def k8 : Class := { plain "java/lang/constant/ConstantDesc" (some 0) with
  accessFlags := 1537
  interfaces := #[]
  cf := some (fileOf pool8 1 #[] #[] 1537 3 #[] #[])
  fields := #[]
  methods := #[]
  instanceTypes := #[]
  staticTypes := #[]
  resolved := Array.replicate 37 none
  statics := none }

def pool9 : Array CpInfo := pool [(1, .methodref 2 3), (0, .class_ 4), (0, .nameAndType 5 6), (0, u "java/lang/Object"), (0, u "<init>"), (0, u "()V"), (2, .fieldref 10 11), (0, .class_ 12), (0, .nameAndType 13 14), (0, u "java/lang/String"), (0, u "value"), (0, u "[B"), (0, .fieldref 10 16), (0, .nameAndType 17 18), (0, u "coder"), (0, u "B"), (2, u "hash"), (0, u "I"), (2, u "hashIsZero"), (0, u "Z"), (0, .methodref 10 28), (0, .nameAndType 5 29), (0, u "([CIILjava/lang/Void;)V"), (8, .fieldref 10 39), (0, .nameAndType 40 26), (0, u "COMPACT_STRINGS"), (1, .class_ 44), (1, u "java/lang/StringUTF16"), (0, u "compress"), (1, .methodref 42 48), (0, .nameAndType 49 50), (0, u "coderFromArrayLen"), (0, u "([BI)B"), (56, .class_ 109), (1, u "java/lang/StringLatin1"), (67, .methodref 42 178), (0, .nameAndType 45 179), (0, u "([CII)[B"), (361, .methodref 107 542), (0, .nameAndType 543 544), (0, u "equals"), (0, u "([B[B)Z"), (28, u "(Ljava/lang/Object;)Z"), (1, .class_ 576), (0, u "java/lang/CharSequence"), (22, u "CASE_INSENSITIVE_ORDER"), (0, u "Ljava/util/Comparator;"), (409, u "([C)V"), (90, u "serialPersistentFields"), (0, u "[Ljava/io/ObjectStreamField;"), (0, .class_ 1104), (0, u "java/lang/String$CaseInsensitiveComparator"), (1, .class_ 1107), (0, u "java/io/Serializable"), (0, .class_ 1109), (0, u "java/lang/Comparable"), (0, .class_ 1111), (0, u "java/lang/constant/Constable"), (0, .class_ 1113), (0, u "java/lang/constant/ConstantDesc"), (2, u "serialVersionUID"), (0, u "J"), (3, u "REPL"), (0, u "C"), (2, u "LATIN1"), (1, u "UTF16")] 323

def k9m0 : Method := { name := "<init>", desc := "()V", sig := { parameters := [], returnType := none }, accessFlags := 1, code := none }
def k9c1 : Code := { maxStack := 5, maxLocals := 2, code := jdk_42_method_3_code, exceptionTable := #[], attributes := #[] }
def k9m1 : Method := { name := "<init>", desc := "([C)V", sig := { parameters := [(.array .char)], returnType := none }, accessFlags := 1, code := some k9c1 }
def k9c2 : Code := { maxStack := 2, maxLocals := 3, code := jdk_42_method_66_code, exceptionTable := #[], attributes := #[] }
def k9m2 : Method := { name := "equals", desc := "(Ljava/lang/Object;)Z", sig := { parameters := [(.object "java/lang/Object")], returnType := some .boolean }, accessFlags := 1, code := some k9c2 }
def k9c3 : Code := { maxStack := 4, maxLocals := 6, code := jdk_42_method_149_code, exceptionTable := #[], attributes := #[] }
def k9m3 : Method := { name := "<init>", desc := "([CIILjava/lang/Void;)V", sig := { parameters := [(.array .char), .int, .int, (.object "java/lang/Void")], returnType := none }, accessFlags := 2, code := some k9c3 }
/-- java/lang/String -/
def k9 : Class := { plain "java/lang/String" (some 0) with
  accessFlags := 49
  interfaces := #[4, 3, 7, 2, 8]
  cf := some (fileOf pool9 10 #[.nestMembers #[1103]] #[{ accessFlags := 1, nameIndex := 5, descriptorIndex := 6, attributes := #[] }, { accessFlags := 1, nameIndex := 5, descriptorIndex := 1010, attributes := #[] }, { accessFlags := 1, nameIndex := 543, descriptorIndex := 573, attributes := #[] }, { accessFlags := 2, nameIndex := 5, descriptorIndex := 29, attributes := #[] }] 49 2 #[1106, 1108, 575, 1110, 1112] #[{ accessFlags := 18, nameIndex := 13, descriptorIndex := 14, attributes := #[] }, { accessFlags := 18, nameIndex := 17, descriptorIndex := 18, attributes := #[] }, { accessFlags := 2, nameIndex := 21, descriptorIndex := 22, attributes := #[] }, { accessFlags := 2, nameIndex := 25, descriptorIndex := 26, attributes := #[] }, { accessFlags := 26, nameIndex := 1116, descriptorIndex := 1117, attributes := #[] }, { accessFlags := 24, nameIndex := 40, descriptorIndex := 26, attributes := #[] }, { accessFlags := 26, nameIndex := 1101, descriptorIndex := 1102, attributes := #[] }, { accessFlags := 26, nameIndex := 1121, descriptorIndex := 1122, attributes := #[] }, { accessFlags := 25, nameIndex := 599, descriptorIndex := 600, attributes := #[] }, { accessFlags := 24, nameIndex := 1125, descriptorIndex := 18, attributes := #[] }, { accessFlags := 24, nameIndex := 1127, descriptorIndex := 18, attributes := #[] }])
  fields := #[{ name := "value", type := (.array .byte), accessFlags := 18, slot := 0, constantValue := 0 }, { name := "coder", type := .byte, accessFlags := 18, slot := 1, constantValue := 0 }, { name := "hash", type := .int, accessFlags := 2, slot := 2, constantValue := 0 }, { name := "hashIsZero", type := .boolean, accessFlags := 2, slot := 3, constantValue := 0 }, { name := "serialVersionUID", type := .long, accessFlags := 26, slot := 0, constantValue := 0 }, { name := "COMPACT_STRINGS", type := .boolean, accessFlags := 24, slot := 1, constantValue := 0 }, { name := "serialPersistentFields", type := (.array (.object "java/io/ObjectStreamField")), accessFlags := 26, slot := 2, constantValue := 0 }, { name := "REPL", type := .char, accessFlags := 26, slot := 3, constantValue := 0 }, { name := "CASE_INSENSITIVE_ORDER", type := (.object "java/util/Comparator"), accessFlags := 25, slot := 4, constantValue := 0 }, { name := "LATIN1", type := .byte, accessFlags := 24, slot := 5, constantValue := 0 }, { name := "UTF16", type := .byte, accessFlags := 24, slot := 6, constantValue := 0 }]
  methods := #[k9m0, k9m1, k9m2, k9m3]
  instanceTypes := #[(.array .byte), .byte, .int, .boolean]
  staticTypes := #[.long, .boolean, (.array (.object "java/io/ObjectStreamField")), .char, (.object "java/util/Comparator"), .byte, .byte]
  resolved := Array.replicate 1451 none
  statics := some 1 }

def pool10 : Array CpInfo := pool [(6, .class_ 8), (1, u "java/lang/Object"), (0, u "<init>"), (0, u "()V"), (1, .class_ 14), (1, u "java/lang/StringUTF16"), (31, u "$assertionsDisabled"), (0, u "Z"), (13, u "HI_BYTE_SHIFT"), (0, u "I"), (2, u "LO_BYTE_SHIFT"), (49, .methodref 12 116), (0, .nameAndType 117 118), (0, u "compress"), (0, u "([CI[BII)I"), (3, u "([CII)[B"), (138, u "coderFromArrayLen"), (0, u "([BI)B"), (106, .class_ 371), (1, u "java/lang/StringUTF16$LinesSpliterator"), (58, u "MAX_LENGTH"), (196, .class_ 628), (0, u "java/lang/StringUTF16$CodePointsSpliterator"), (0, .class_ 630), (0, u "java/lang/StringUTF16$CharsSpliterator")] 4

def k10m0 : Method := { name := "<init>", desc := "()V", sig := { parameters := [], returnType := none }, accessFlags := 0, code := none }
def k10c1 : Code := { maxStack := 2, maxLocals := 2, code := jdk_52_method_15_code, exceptionTable := #[], attributes := #[] }
def k10m1 : Method := { name := "coderFromArrayLen", desc := "([BI)B", sig := { parameters := [(.array .byte), .int], returnType := some .byte }, accessFlags := 8, code := some k10c1 }
def k10c2 : Code := { maxStack := 5, maxLocals := 6, code := jdk_52_method_16_code, exceptionTable := #[], attributes := #[] }
def k10m2 : Method := { name := "compress", desc := "([CII)[B", sig := { parameters := [(.array .char), .int, .int], returnType := some (.array .byte) }, accessFlags := 9, code := some k10c2 }
def k10c3 : Code := { maxStack := 3, maxLocals := 7, code := jdk_52_method_21_code, exceptionTable := #[], attributes := #[] }
def k10m3 : Method := { name := "compress", desc := "([CI[BII)I", sig := { parameters := [(.array .char), .int, (.array .byte), .int, .int], returnType := some .int }, accessFlags := 9, code := some k10c3 }
/-- java/lang/StringUTF16 -/
def k10 : Class := { plain "java/lang/StringUTF16" (some 0) with
  accessFlags := 48
  interfaces := #[]
  cf := some (fileOf pool10 12 #[.nestMembers #[627, 629, 369]] #[{ accessFlags := 0, nameIndex := 9, descriptorIndex := 10, attributes := #[] }, { accessFlags := 8, nameIndex := 261, descriptorIndex := 262, attributes := #[] }, { accessFlags := 9, nameIndex := 117, descriptorIndex := 122, attributes := #[] }, { accessFlags := 9, nameIndex := 117, descriptorIndex := 118, attributes := #[] }] 48 6 #[] #[{ accessFlags := 26, nameIndex := 61, descriptorIndex := 62, attributes := #[] }, { accessFlags := 26, nameIndex := 65, descriptorIndex := 62, attributes := #[] }, { accessFlags := 24, nameIndex := 430, descriptorIndex := 62, attributes := #[] }, { accessFlags := 4120, nameIndex := 46, descriptorIndex := 47, attributes := #[] }])
  fields := #[{ name := "HI_BYTE_SHIFT", type := .int, accessFlags := 26, slot := 0, constantValue := 0 }, { name := "LO_BYTE_SHIFT", type := .int, accessFlags := 26, slot := 1, constantValue := 0 }, { name := "MAX_LENGTH", type := .int, accessFlags := 24, slot := 2, constantValue := 0 }, { name := "$assertionsDisabled", type := .boolean, accessFlags := 4120, slot := 3, constantValue := 0 }]
  methods := #[k10m0, k10m1, k10m2, k10m3]
  instanceTypes := #[]
  staticTypes := #[.int, .int, .int, .boolean]
  resolved := Array.replicate 635 none
  statics := none }

def pool11 : Array CpInfo := pool [(1, .class_ 2), (0, u "java/lang/Cloneable"), (0, .class_ 4), (0, u "java/lang/Object")] 2

/-- java/lang/Cloneable -/
def k11 : Class := { plain "java/lang/Cloneable" (some 0) with
  accessFlags := 1537
  interfaces := #[]
  cf := some (fileOf pool11 1 #[] #[] 1537 3 #[] #[])
  fields := #[]
  methods := #[]
  instanceTypes := #[]
  staticTypes := #[]
  resolved := Array.replicate 7 none
  statics := none }

def pool12 : Array CpInfo := pool [(4, .class_ 6), (1, u "java/lang/Object"), (0, u "<init>"), (0, u "()V"), (5, .class_ 16), (1, u "java/lang/StringLatin1"), (104, u "$assertionsDisabled"), (0, u "Z"), (98, .class_ 223), (1, u "java/lang/StringLatin1$LinesSpliterator"), (57, u "equals"), (0, u "([B[B)Z"), (107, .class_ 391), (0, u "java/lang/StringLatin1$CharsSpliterator")] 3

def k12m0 : Method := { name := "<init>", desc := "()V", sig := { parameters := [], returnType := none }, accessFlags := 0, code := none }
def k12c1 : Code := { maxStack := 3, maxLocals := 3, code := jdk_43_method_13_code, exceptionTable := #[], attributes := #[] }
def k12m1 : Method := { name := "equals", desc := "([B[B)Z", sig := { parameters := [(.array .byte), (.array .byte)], returnType := some .boolean }, accessFlags := 9, code := some k12c1 }
/-- java/lang/StringLatin1 -/
def k12 : Class := { plain "java/lang/StringLatin1" (some 0) with
  accessFlags := 48
  interfaces := #[]
  cf := some (fileOf pool12 14 #[.nestMembers #[390, 221]] #[{ accessFlags := 0, nameIndex := 7, descriptorIndex := 8, attributes := #[] }, { accessFlags := 9, nameIndex := 281, descriptorIndex := 282, attributes := #[] }] 48 4 #[] #[{ accessFlags := 4120, nameIndex := 121, descriptorIndex := 122, attributes := #[] }])
  fields := #[{ name := "$assertionsDisabled", type := .boolean, accessFlags := 4120, slot := 0, constantValue := 0 }]
  methods := #[k12m0, k12m1]
  instanceTypes := #[]
  staticTypes := #[.boolean]
  resolved := Array.replicate 395 none
  statics := none }

def pool13 : Array CpInfo := pool [(2, .class_ 4), (1, u "java/lang/Object"), (0, u "<init>"), (0, u "()V"), (17, .class_ 26), (1, u "jdk/internal/util/Preconditions"), (28, .class_ 56), (0, u "jdk/internal/util/Preconditions$4"), (57, .class_ 115), (0, u "jdk/internal/util/Preconditions$1"), (7, u "SIOOBE_FORMATTER"), (0, u "Ljava/util/function/BiFunction;"), (0, .class_ 126), (0, u "jdk/internal/util/Preconditions$2"), (3, u "AIOOBE_FORMATTER"), (0, .class_ 132), (0, u "jdk/internal/util/Preconditions$3"), (3, u "IOOBE_FORMATTER")] 57

def k13m0 : Method := { name := "<init>", desc := "()V", sig := { parameters := [], returnType := none }, accessFlags := 1, code := none }
/-- jdk/internal/util/Preconditions -/
def k13 : Class := { plain "jdk/internal/util/Preconditions" (some 0) with
  accessFlags := 33
  interfaces := #[]
  cf := some (fileOf pool13 24 #[.nestMembers #[55, 131, 125, 114]] #[{ accessFlags := 1, nameIndex := 5, descriptorIndex := 6, attributes := #[] }] 33 2 #[] #[{ accessFlags := 25, nameIndex := 123, descriptorIndex := 124, attributes := #[] }, { accessFlags := 25, nameIndex := 130, descriptorIndex := 124, attributes := #[] }, { accessFlags := 25, nameIndex := 136, descriptorIndex := 124, attributes := #[] }])
  fields := #[{ name := "SIOOBE_FORMATTER", type := (.object "java/util/function/BiFunction"), accessFlags := 25, slot := 0, constantValue := 0 }, { name := "AIOOBE_FORMATTER", type := (.object "java/util/function/BiFunction"), accessFlags := 25, slot := 1, constantValue := 0 }, { name := "IOOBE_FORMATTER", type := (.object "java/util/function/BiFunction"), accessFlags := 25, slot := 2, constantValue := 0 }]
  methods := #[k13m0]
  instanceTypes := #[]
  staticTypes := #[(.object "java/util/function/BiFunction"), (.object "java/util/function/BiFunction"), (.object "java/util/function/BiFunction")]
  resolved := Array.replicate 194 none
  statics := some 2 }

def pool14 : Array CpInfo := pool [(9, u "<init>"), (6, .class_ 18), (1, u "java/lang/Object"), (0, u "()V"), (1, .class_ 23), (1, u "jdk/internal/util/ArraysSupport"), (0, u "LOG2_ARRAY_LONG_INDEX_SCALE"), (0, u "I"), (2, u "U"), (0, u "Ljdk/internal/misc/Unsafe;"), (8, u "BIG_ENDIAN"), (0, u "Z"), (8, u "LOG2_BYTE_BIT_SIZE"), (4, u "LOG2_ARRAY_INT_INDEX_SCALE"), (54, u "JLA"), (0, u "Ljdk/internal/access/JavaLangAccess;"), (11, u "LOG2_ARRAY_BOOLEAN_INDEX_SCALE"), (9, u "LOG2_ARRAY_BYTE_INDEX_SCALE"), (5, u "LOG2_ARRAY_CHAR_INDEX_SCALE"), (5, u "LOG2_ARRAY_SHORT_INDEX_SCALE"), (18, u "LOG2_ARRAY_FLOAT_INDEX_SCALE"), (24, u "LOG2_ARRAY_DOUBLE_INDEX_SCALE"), (89, u "T_BOOLEAN"), (2, u "T_CHAR"), (1, u "T_FLOAT"), (1, u "T_DOUBLE"), (1, u "T_BYTE"), (1, u "T_SHORT"), (1, u "T_INT"), (1, u "T_LONG"), (1, u "SOFT_MAX_ARRAY_LENGTH")] 83

def k14m0 : Method := { name := "<init>", desc := "()V", sig := { parameters := [], returnType := none }, accessFlags := 2, code := none }
/-- jdk/internal/util/ArraysSupport -/
def k14 : Class := { plain "jdk/internal/util/ArraysSupport" (some 0) with
  accessFlags := 33
  interfaces := #[]
  cf := some (fileOf pool14 21 #[] #[{ accessFlags := 2, nameIndex := 9, descriptorIndex := 19, attributes := #[] }] 33 16 #[] #[{ accessFlags := 24, nameIndex := 28, descriptorIndex := 29, attributes := #[] }, { accessFlags := 26, nameIndex := 38, descriptorIndex := 39, attributes := #[] }, { accessFlags := 25, nameIndex := 121, descriptorIndex := 25, attributes := #[] }, { accessFlags := 25, nameIndex := 131, descriptorIndex := 25, attributes := #[] }, { accessFlags := 25, nameIndex := 137, descriptorIndex := 25, attributes := #[] }, { accessFlags := 25, nameIndex := 143, descriptorIndex := 25, attributes := #[] }, { accessFlags := 25, nameIndex := 53, descriptorIndex := 25, attributes := #[] }, { accessFlags := 25, nameIndex := 24, descriptorIndex := 25, attributes := #[] }, { accessFlags := 25, nameIndex := 162, descriptorIndex := 25, attributes := #[] }, { accessFlags := 25, nameIndex := 187, descriptorIndex := 25, attributes := #[] }, { accessFlags := 26, nameIndex := 48, descriptorIndex := 25, attributes := #[] }, { accessFlags := 25, nameIndex := 277, descriptorIndex := 25, attributes := #[] }, { accessFlags := 25, nameIndex := 280, descriptorIndex := 25, attributes := #[] }, { accessFlags := 25, nameIndex := 282, descriptorIndex := 25, attributes := #[] }, { accessFlags := 25, nameIndex := 284, descriptorIndex := 25, attributes := #[] }, { accessFlags := 25, nameIndex := 286, descriptorIndex := 25, attributes := #[] }, { accessFlags := 25, nameIndex := 288, descriptorIndex := 25, attributes := #[] }, { accessFlags := 25, nameIndex := 290, descriptorIndex := 25, attributes := #[] }, { accessFlags := 25, nameIndex := 292, descriptorIndex := 25, attributes := #[] }, { accessFlags := 26, nameIndex := 108, descriptorIndex := 109, attributes := #[] }, { accessFlags := 25, nameIndex := 294, descriptorIndex := 25, attributes := #[] }])
  fields := #[{ name := "U", type := (.object "jdk/internal/misc/Unsafe"), accessFlags := 24, slot := 0, constantValue := 0 }, { name := "BIG_ENDIAN", type := .boolean, accessFlags := 26, slot := 1, constantValue := 0 }, { name := "LOG2_ARRAY_BOOLEAN_INDEX_SCALE", type := .int, accessFlags := 25, slot := 2, constantValue := 0 }, { name := "LOG2_ARRAY_BYTE_INDEX_SCALE", type := .int, accessFlags := 25, slot := 3, constantValue := 0 }, { name := "LOG2_ARRAY_CHAR_INDEX_SCALE", type := .int, accessFlags := 25, slot := 4, constantValue := 0 }, { name := "LOG2_ARRAY_SHORT_INDEX_SCALE", type := .int, accessFlags := 25, slot := 5, constantValue := 0 }, { name := "LOG2_ARRAY_INT_INDEX_SCALE", type := .int, accessFlags := 25, slot := 6, constantValue := 0 }, { name := "LOG2_ARRAY_LONG_INDEX_SCALE", type := .int, accessFlags := 25, slot := 7, constantValue := 0 }, { name := "LOG2_ARRAY_FLOAT_INDEX_SCALE", type := .int, accessFlags := 25, slot := 8, constantValue := 0 }, { name := "LOG2_ARRAY_DOUBLE_INDEX_SCALE", type := .int, accessFlags := 25, slot := 9, constantValue := 0 }, { name := "LOG2_BYTE_BIT_SIZE", type := .int, accessFlags := 26, slot := 10, constantValue := 0 }, { name := "T_BOOLEAN", type := .int, accessFlags := 25, slot := 11, constantValue := 0 }, { name := "T_CHAR", type := .int, accessFlags := 25, slot := 12, constantValue := 0 }, { name := "T_FLOAT", type := .int, accessFlags := 25, slot := 13, constantValue := 0 }, { name := "T_DOUBLE", type := .int, accessFlags := 25, slot := 14, constantValue := 0 }, { name := "T_BYTE", type := .int, accessFlags := 25, slot := 15, constantValue := 0 }, { name := "T_SHORT", type := .int, accessFlags := 25, slot := 16, constantValue := 0 }, { name := "T_INT", type := .int, accessFlags := 25, slot := 17, constantValue := 0 }, { name := "T_LONG", type := .int, accessFlags := 25, slot := 18, constantValue := 0 }, { name := "JLA", type := (.object "jdk/internal/access/JavaLangAccess"), accessFlags := 26, slot := 19, constantValue := 0 }, { name := "SOFT_MAX_ARRAY_LENGTH", type := .int, accessFlags := 25, slot := 20, constantValue := 0 }]
  methods := #[k14m0]
  instanceTypes := #[]
  staticTypes := #[(.object "jdk/internal/misc/Unsafe"), .boolean, .int, .int, .int, .int, .int, .int, .int, .int, .int, .int, .int, .int, .int, .int, .int, .int, .int, (.object "jdk/internal/access/JavaLangAccess"), .int]
  resolved := Array.replicate 378 none
  statics := none }

/-- the primitive byte -/
def k15 : Class := { plain "byte" none with kind := .primitive 'B', accessFlags := 0x411 }
/-- [B -/
def k16 : Class := { plain "[B" (some 0) with kind := .array 15 .byte, interfaces := #[11, 4], accessFlags := 1041 }

/-- the primitive char -/
def k17 : Class := { plain "char" none with kind := .primitive 'C', accessFlags := 0x411 }
/-- [C -/
def k18 : Class := { plain "[C" (some 0) with kind := .array 17 .char, interfaces := #[11, 4], accessFlags := 1041 }

/-- the primitive int -/
def k19 : Class := { plain "int" none with kind := .primitive 'I', accessFlags := 0x411 }
/-- [I -/
def k20 : Class := { plain "[I" (some 0) with kind := .array 19 .int, interfaces := #[11, 4], accessFlags := 1041 }

/-- [Lcom/example/earnline/earnline/core/Item$Kind; -/
def k21 : Class := { plain "[Lcom/example/earnline/earnline/core/Item$Kind;" (some 0) with kind := .array 6 (.object "com/example/earnline/earnline/core/Item$Kind"), interfaces := #[11, 4], accessFlags := 1041 }

def heap : Heap := #[{ cls := 6, slots := #[.ref 4, .ref 5, .ref 3], vm := .statics 6 },
  { cls := 9, slots := #[.long 0, .int 1, .null, .int 0, .null, .int 0, .int 0], vm := .statics 9 },
  { cls := 13, slots := #[.null, .null, .null], vm := .statics 13 },
  { cls := 21, slots := #[.ref 4, .ref 5], vm := .none },
  { cls := 6, slots := #[.null, .int 0, .int 0, .ref 6], vm := .none },
  { cls := 6, slots := #[.null, .int 1, .int 0, .ref 8], vm := .none },
  { cls := 9, slots := #[.ref 7, .int 0, .int 0, .int 0], vm := .none },
  { cls := 16, slots := #[.int 108, .int 97, .int 98, .int 111, .int 114], vm := .none },
  { cls := 9, slots := #[.ref 9, .int 0, .int 0, .int 0], vm := .none },
  { cls := 16, slots := #[.int 110, .int 111, .int 110, .int 108, .int 97, .int 98, .int 111, .int 114], vm := .none }]
def classes : Array Class := #[k0, k1, k2, k3, k4, k5, k6, k7, k8, k9, k10, k11, k12, k13, k14, k15, k16, k17, k18, k19, k20, k21]
def interned : List (Array UInt16 × Addr) := []
def slotsUsed : Nat := 44
def theMethod : MethodId := ⟨1, 1⟩
def args0 : Array Value := #[.int 5]
def aboutOver (below : List Frame) : State where
  vm := { classes := classes, interned := interned.toArray }
  heap := heap
  slotsUsed := slotsUsed
  threads := #[{ frames := .invoking theMethod args0 :: below }]
def below0 : List Frame := [.native { method := ⟨0, 0⟩, args := #[] }]
def about1 : State := aboutOver below0
def p0 : Program := .bare "" "" ""
def e0 : Env := launch0.env 0 0 0
theorem w_frames : about1.frames = Frame.invoking theMethod args0 :: below0 := rfl
set_option maxRecDepth 65536 in
theorem w_args : argsFit about1.vm theMethod args0 = true := by decide +kernel
set_option maxRecDepth 65536 in
theorem w_heap : heapFits about1 = true := by decide +kernel
set_option maxRecDepth 65536 in
theorem w_runnable : about1.curStatus? = some .runnable := by decide +kernel
set_option maxRecDepth 65536 in
theorem w_alone : about1.alone = true := by decide +kernel
set_option maxRecDepth 65536 in
theorem w_named : about1.methodNamed? x = some theMethod := by decide +kernel
set_option maxRecDepth 65536 in
theorem w_hears : about1.hears theMethod below0 = true := by decide +kernel
set_option maxRecDepth 65536 in
theorem w_ripe : about1.ripe theMethod args0 below0 = true := by decide +kernel
theorem w_running : about1.status = .running := rfl
set_option maxRecDepth 65536 in
theorem w_room : about1.hasRoom e0.platform room_1 = true :=
  launch0.hasRoom_least _ room_1 (by decide +kernel) (by decide +kernel) (by decide +kernel) (by decide +kernel) (by decide +kernel) (by decide +kernel)
theorem allAtoms_all (ts : List Jvm.Cond) (a : Array Jvm.Value) (st : Jvm.State) : (allAtoms ts).before a st = ts.all (fun c => c.before a st) := by
  induction ts with
  | nil => rfl
  | cons c t ih =>
    show (Jvm.Cond.and c (allAtoms t)).before a st = _
    rw [Jvm.Cond.before_and, ih, List.all_cons]
def words1 : List Jvm.Cond := Jvm.Cond.code x code maxLocals ret :: tables_1
/-- a 'code' word, met by the world's own term for the bytes: nothing is compared byte by byte -/
theorem code_word {y : MethodName} {bytes : ByteArray} {mx : Nat} {rt : Option FieldType} {a : Array Value} {s : State} {m : MethodId} {meth : Method} {c : Code} (h1 : s.methodNamed? y = some m) (h2 : s.vm.method? m = some meth) (h3 : meth.code = some c) (h4 : c.code = bytes)
    (h5 : (c.maxLocals == mx && c.exceptionTable.isEmpty && decide (c.maxStack ≤ mostOperands) && decide (meth.sig.returnType = rt) && !meth.locks && decide (parseMethodDescriptor y.desc = some meth.sig)) = true) : (Jvm.Cond.code y bytes mx rt).before a s = true := by
  simp only [Bool.and_eq_true, beq_iff_eq, Bool.not_eq_true', decide_eq_true_eq] at h5
  obtain ⟨⟨⟨⟨⟨g1, g2⟩, g3⟩, g4⟩, g5⟩, g6⟩ := h5
  simp [Cond.before, Cond.holds, Cond.value, h1, h2, h3, h4, g1, g2, g3, g4, g5, g6]
def isCode : Jvm.Cond → Bool
  | .code _ _ _ _ => true
  | _ => false
theorem all_split {L : List Jvm.Cond} {P : Jvm.Cond → Bool} (h1 : L.all (fun c => isCode c || P c) = true) (h2 : ∀ c ∈ L.filter isCode, P c = true) : L.all P = true := by
  refine List.all_eq_true.mpr fun c hc => ?_
  have h := List.all_eq_true.mp h1 c hc
  rcases Bool.eq_false_or_eq_true (isCode c) with hi | hi
  · exact h2 c (List.mem_filter.mpr ⟨hc, hi⟩)
  · simpa [hi] using h
set_option maxRecDepth 65536 in
theorem w_c0 : (Jvm.Cond.code x code maxLocals ret).before args0 about1 = true := code_word (m := ⟨1, 1⟩) (meth := k1m1) (c := k1c1) (by decide +kernel) rfl rfl rfl (by decide +kernel)
set_option maxRecDepth 65536 in
theorem w_c1 : (Jvm.Cond.code ({ cls := "java/lang/String", name := "<init>", desc := "([C)V" } : Jvm.MethodName) jdk_42_method_3_code (2 : Nat) (Option.none : Option Jvm.ClassFile.FieldType)).before args0 about1 = true := code_word (m := ⟨9, 1⟩) (meth := k9m1) (c := k9c1) (by decide +kernel) rfl rfl rfl (by decide +kernel)
set_option maxRecDepth 65536 in
theorem w_c2 : (Jvm.Cond.code ({ cls := "java/lang/String", name := "<init>", desc := "([CIILjava/lang/Void;)V" } : Jvm.MethodName) jdk_42_method_149_code (6 : Nat) (Option.none : Option Jvm.ClassFile.FieldType)).before args0 about1 = true := code_word (m := ⟨9, 3⟩) (meth := k9m3) (c := k9c3) (by decide +kernel) rfl rfl rfl (by decide +kernel)
set_option maxRecDepth 65536 in
theorem w_c3 : (Jvm.Cond.code ({ cls := "java/lang/Object", name := "<init>", desc := "()V" } : Jvm.MethodName) object_method_1_code (1 : Nat) (Option.none : Option Jvm.ClassFile.FieldType)).before args0 about1 = true := code_word (m := ⟨0, 0⟩) (meth := k0m0) (c := k0c0) (by decide +kernel) rfl rfl rfl (by decide +kernel)
set_option maxRecDepth 65536 in
theorem w_c4 : (Jvm.Cond.code ({ cls := "java/lang/StringUTF16", name := "compress", desc := "([CII)[B" } : Jvm.MethodName) jdk_52_method_16_code (6 : Nat) (Option.some (Jvm.ClassFile.FieldType.array Jvm.ClassFile.FieldType.byte))).before args0 about1 = true := code_word (m := ⟨10, 2⟩) (meth := k10m2) (c := k10c2) (by decide +kernel) rfl rfl rfl (by decide +kernel)
set_option maxRecDepth 65536 in
theorem w_c5 : (Jvm.Cond.code ({ cls := "java/lang/StringUTF16", name := "compress", desc := "([CI[BII)I" } : Jvm.MethodName) jdk_52_method_21_code (7 : Nat) (Option.some Jvm.ClassFile.FieldType.int)).before args0 about1 = true := code_word (m := ⟨10, 3⟩) (meth := k10m3) (c := k10c3) (by decide +kernel) rfl rfl rfl (by decide +kernel)
set_option maxRecDepth 65536 in
theorem w_c6 : (Jvm.Cond.code ({ cls := "java/lang/StringUTF16", name := "coderFromArrayLen", desc := "([BI)B" } : Jvm.MethodName) jdk_52_method_15_code (2 : Nat) (Option.some Jvm.ClassFile.FieldType.byte)).before args0 about1 = true := code_word (m := ⟨10, 1⟩) (meth := k10m1) (c := k10c1) (by decide +kernel) rfl rfl rfl (by decide +kernel)
set_option maxRecDepth 65536 in
theorem w_c7 : (Jvm.Cond.code ({ cls := "com/example/earnline/earnline/core/Item$Kind", name := "of", desc := "(Ljava/lang/String;)Lcom/example/earnline/earnline/core/Item$Kind;" } : Jvm.MethodName) prog_92_method_4_code (5 : Nat) (Option.some (Jvm.ClassFile.FieldType.object "com/example/earnline/earnline/core/Item$Kind"))).before args0 about1 = true := code_word (m := ⟨6, 1⟩) (meth := k6m1) (c := k6c1) (by decide +kernel) rfl rfl rfl (by decide +kernel)
set_option maxRecDepth 65536 in
theorem w_c8 : (Jvm.Cond.code ({ cls := "com/example/earnline/earnline/core/Item$Kind", name := "values", desc := "()[Lcom/example/earnline/earnline/core/Item$Kind;" } : Jvm.MethodName) prog_92_method_1_code (0 : Nat) (Option.some (Jvm.ClassFile.FieldType.array (Jvm.ClassFile.FieldType.object "com/example/earnline/earnline/core/Item$Kind")))).before args0 about1 = true := code_word (m := ⟨6, 0⟩) (meth := k6m0) (c := k6c0) (by decide +kernel) rfl rfl rfl (by decide +kernel)
set_option maxRecDepth 65536 in
theorem w_c9 : (Jvm.Cond.code ({ cls := "java/lang/String", name := "equals", desc := "(Ljava/lang/Object;)Z" } : Jvm.MethodName) jdk_42_method_66_code (3 : Nat) (Option.some Jvm.ClassFile.FieldType.boolean)).before args0 about1 = true := code_word (m := ⟨9, 2⟩) (meth := k9m2) (c := k9c2) (by decide +kernel) rfl rfl rfl (by decide +kernel)
set_option maxRecDepth 65536 in
theorem w_c10 : (Jvm.Cond.code ({ cls := "java/lang/StringLatin1", name := "equals", desc := "([B[B)Z" } : Jvm.MethodName) jdk_43_method_13_code (3 : Nat) (Option.some Jvm.ClassFile.FieldType.boolean)).before args0 about1 = true := code_word (m := ⟨12, 1⟩) (meth := k12m1) (c := k12c1) (by decide +kernel) rfl rfl rfl (by decide +kernel)
set_option maxRecDepth 65536 in
theorem w_c11 : (Jvm.Cond.code ({ cls := "com/example/earnline/earnline/core/Item$Kind", name := "toString", desc := "()Ljava/lang/String;" } : Jvm.MethodName) prog_92_method_5_code (1 : Nat) (Option.some (Jvm.ClassFile.FieldType.object "java/lang/String"))).before args0 about1 = true := code_word (m := ⟨6, 2⟩) (meth := k6m2) (c := k6c2) (by decide +kernel) rfl rfl rfl (by decide +kernel)
def codes1 : List Jvm.Cond := [Jvm.Cond.code x code maxLocals ret, Jvm.Cond.code ({ cls := "java/lang/String", name := "<init>", desc := "([C)V" } : Jvm.MethodName) jdk_42_method_3_code (2 : Nat) (Option.none : Option Jvm.ClassFile.FieldType), Jvm.Cond.code ({ cls := "java/lang/String", name := "<init>", desc := "([CIILjava/lang/Void;)V" } : Jvm.MethodName) jdk_42_method_149_code (6 : Nat) (Option.none : Option Jvm.ClassFile.FieldType), Jvm.Cond.code ({ cls := "java/lang/Object", name := "<init>", desc := "()V" } : Jvm.MethodName) object_method_1_code (1 : Nat) (Option.none : Option Jvm.ClassFile.FieldType), Jvm.Cond.code ({ cls := "java/lang/StringUTF16", name := "compress", desc := "([CII)[B" } : Jvm.MethodName) jdk_52_method_16_code (6 : Nat) (Option.some (Jvm.ClassFile.FieldType.array Jvm.ClassFile.FieldType.byte)), Jvm.Cond.code ({ cls := "java/lang/StringUTF16", name := "compress", desc := "([CI[BII)I" } : Jvm.MethodName) jdk_52_method_21_code (7 : Nat) (Option.some Jvm.ClassFile.FieldType.int), Jvm.Cond.code ({ cls := "java/lang/StringUTF16", name := "coderFromArrayLen", desc := "([BI)B" } : Jvm.MethodName) jdk_52_method_15_code (2 : Nat) (Option.some Jvm.ClassFile.FieldType.byte), Jvm.Cond.code ({ cls := "com/example/earnline/earnline/core/Item$Kind", name := "of", desc := "(Ljava/lang/String;)Lcom/example/earnline/earnline/core/Item$Kind;" } : Jvm.MethodName) prog_92_method_4_code (5 : Nat) (Option.some (Jvm.ClassFile.FieldType.object "com/example/earnline/earnline/core/Item$Kind")), Jvm.Cond.code ({ cls := "com/example/earnline/earnline/core/Item$Kind", name := "values", desc := "()[Lcom/example/earnline/earnline/core/Item$Kind;" } : Jvm.MethodName) prog_92_method_1_code (0 : Nat) (Option.some (Jvm.ClassFile.FieldType.array (Jvm.ClassFile.FieldType.object "com/example/earnline/earnline/core/Item$Kind"))), Jvm.Cond.code ({ cls := "java/lang/String", name := "equals", desc := "(Ljava/lang/Object;)Z" } : Jvm.MethodName) jdk_42_method_66_code (3 : Nat) (Option.some Jvm.ClassFile.FieldType.boolean), Jvm.Cond.code ({ cls := "java/lang/StringLatin1", name := "equals", desc := "([B[B)Z" } : Jvm.MethodName) jdk_43_method_13_code (3 : Nat) (Option.some Jvm.ClassFile.FieldType.boolean), Jvm.Cond.code ({ cls := "com/example/earnline/earnline/core/Item$Kind", name := "toString", desc := "()Ljava/lang/String;" } : Jvm.MethodName) prog_92_method_5_code (1 : Nat) (Option.some (Jvm.ClassFile.FieldType.object "java/lang/String"))]
set_option maxRecDepth 65536 in
theorem codes_eq : words1.filter isCode = codes1 := rfl
theorem w_codes : ∀ c ∈ words1.filter isCode, c.before args0 about1 = true := by
  rw [codes_eq]
  intro c hc
  simp only [codes1, List.mem_cons, List.not_mem_nil, or_false] at hc
  rcases hc with rfl | rfl | rfl | rfl | rfl | rfl | rfl | rfl | rfl | rfl | rfl | rfl
  · exact w_c0
  · exact w_c1
  · exact w_c2
  · exact w_c3
  · exact w_c4
  · exact w_c5
  · exact w_c6
  · exact w_c7
  · exact w_c8
  · exact w_c9
  · exact w_c10
  · exact w_c11
set_option maxRecDepth 65536 in
theorem w_t1 : (words1.take 24).all (fun c => isCode c || c.before args0 about1) = true := by decide +kernel
set_option maxRecDepth 65536 in
theorem w_t2 : ((words1.drop 24).take 24).all (fun c => isCode c || c.before args0 about1) = true := by decide +kernel
set_option maxRecDepth 65536 in
theorem w_t3 : ((words1.drop 24).drop 24).all (fun c => isCode c || c.before args0 about1) = true := by decide +kernel
theorem w_tables : (allAtoms (Jvm.Cond.code x code maxLocals ret :: tables_1)).before args0 about1 = true := by
  rw [allAtoms_all]
  show words1.all (fun c => c.before args0 about1) = true
  refine all_split ?_ w_codes
  rw [← List.take_append_drop 24 words1, List.all_append, w_t1, ← List.take_append_drop 24 (words1.drop 24), List.all_append, w_t2, w_t3]
  rfl
set_option maxRecDepth 65536 in
theorem w_rest : rest_1_c.before args0 about1 = true := by decide +kernel
set_option maxRecDepth 65536 in
theorem w_case : (Jvm.Cond.and given_1 narrow_1).before args0 about1 = true := by decide +kernel
theorem w_applies : (headSpec (Jvm.Cond.code x code maxLocals ret :: tables_1) room_1).applies x e0.platform about1 = true :=
  (Spec.applies_iff w_frames).mpr ⟨w_running, w_runnable, w_alone, w_named, w_hears, w_ripe, w_room, w_tables⟩
theorem atStart : AtStart classFile x code maxLocals ret World_1 tables_1 room_1 Calls_1 rest_1 Pre_1 launch0 p0 e0 about1 theMethod args0 below0 :=
  ⟨lists_1, trivial, launch0.admits_env _ _ _, launch0.least_env, fairChoices_fair.cas, fairChoices_fair.clock, w_frames, w_args, w_heap, w_applies, trivial, w_rest, w_case⟩
end start1
theorem witness_1 : WitnessClaimed_1 := ⟨start1.p0, start1.e0, start1.about1, start1.theMethod, start1.args0, start1.below0, start1.atStart⟩
end Jvm.Pilot.@@N@@
