import JvmDerived
import JvmDerived.Pilot.@@N@@Statement
import JvmDerived.Pilot.@@N@@Code
set_option linter.unusedVariables false
set_option linter.unusedSimpArgs false
/- laws to paste: Road.backV, Road.eqW, Road.chN, Road.codOf (cut by pick.py; bodies as the Statement names them) -/
namespace Jvm.Pilot.@@N@@
namespace StrChars
open Jvm Sem ClassFile Op Lib Jvm.Stand Jvm.Free.XT Jvm.Free.ALB Jvm.Free.JM Jvm.Free
open Jvm.Lib.Cold (StaticIs)
/-- a char array whose places are chars -/
def Ch (a : Addr) (A : Cell) (U : State) : Prop := Arr .char a A U ∧ Typed .char A
theorem Ch.mv {a : Addr} {A : Cell} {U U' : State} (h : Ch a A U) (hal : U.vm.Alike U'.vm) (hh : U'.heap = U.heap) : Ch a A U' := ⟨h.1.mv hal hh, h.2⟩
theorem Ch.keep {a : Addr} {A : Cell} {U U' : State} (h : Ch a A U) (hal : U.vm.Alike U'.vm) (hk : U'.heap[a]? = some A) : Ch a A U' := ⟨h.1.keep hal hk, h.2⟩
/-- what place i of a char[]'s cell holds -/
def cv (A : Cell) (i : Nat) : Int32 := match A.slots[i]? with | some (.int x) => x | _ => 0
theorem Ch.get {a : Addr} {A : Cell} {U : State} (h : Ch a A U) {i : Nat} (hi : i < A.slots.size) : A.slots[i]? = some (.int (cv A i)) := by
  have e := Array.getElem?_eq_getElem hi
  have f := h.2 i _ e
  unfold cv; rw [e]
  generalize A.slots[i] = v at f
  cases v <;> simp [fits] at f ⊢
/-- the byte that i2b leaves of a char -/
def lo8 (x : Int32) : Int32 := x.toInt8.toInt32
theorem fits_lo8 (y : Int32) : fits .byte (.int (lo8 y)) = true := by
  have h1 := y.toInt8.le_toInt
  have h2 := y.toInt8.toInt_lt
  simp only [lo8, fits, Bool.and_eq_true, decide_eq_true_eq, Int32.le_iff_toInt_le, Int8.toInt_toInt32, show (-128 : Int32).toInt = -128 from by decide, show (127 : Int32).toInt = 127 from by decide]
  omega
/-- A' is A but that each place j of lo .. hi - 1 holds f j -/
def Laid (A A' : Cell) (lo hi : Nat) (f : Nat → Value) : Prop := A'.cls = A.cls ∧ A'.vm = A.vm ∧ A'.slots.size = A.slots.size ∧ ∀ i, A'.slots[i]? = if lo ≤ i ∧ i < hi then some (f i) else A.slots[i]?
theorem Laid.zero (A : Cell) (lo : Nat) (f : Nat → Value) : Laid A A lo (lo + 0) f := ⟨rfl, rfl, rfl, fun i => by rw [if_neg (by omega)]⟩
theorem Laid.step {A Ak : Cell} {lo k : Nat} {f : Nat → Value} {v : Value} (h : Laid A Ak lo k f) (hlo : lo ≤ k) (hk : k < Ak.slots.size) (hv : v = f k) : Laid A (Ak.setSlot k v) lo (k + 1) f := by
  refine ⟨h.1, h.2.1, by simpa [Cell.setSlot] using h.2.2.1, fun i => ?_⟩
  by_cases e : k = i
  · subst e; rw [Cell.slots_setSlot_self v hk, if_pos (by omega), hv]
  · rw [Cell.slots_setSlot_ne v e, h.2.2.2 i]
    by_cases q : lo ≤ i ∧ i < k
    · rw [if_pos q, if_pos (by omega)]
    · rw [if_neg q, if_neg (by omega)]
def U16 : String := "java/lang/StringUTF16"
namespace Cmp5
def yN : MethodName := ⟨"java/lang/StringUTF16", "compress", "([CI[BII)I"⟩
abbrev yB : ByteArray := jdk_52_method_21_code
theorem d0 : decode yB 0 = .ok (.iconst 0, 1) := by decide +kernel
theorem d1 : decode yB 1 = .ok (.istore 5, 2) := by decide +kernel
theorem d3 : decode yB 3 = .ok (.iload 5, 2) := by decide +kernel
theorem d5 : decode yB 5 = .ok (.iload 4, 2) := by decide +kernel
theorem d7 : decode yB 7 = .ok (.if_icmp (.ge) 37, 3) := by decide +kernel
theorem d10 : decode yB 10 = .ok (.aload_n 0, 1) := by decide +kernel
theorem d11 : decode yB 11 = .ok (.iload_n 1, 1) := by decide +kernel
theorem d12 : decode yB 12 = .ok (.caload, 1) := by decide +kernel
theorem d13 : decode yB 13 = .ok (.istore 6, 2) := by decide +kernel
theorem d15 : decode yB 15 = .ok (.iload 6, 2) := by decide +kernel
theorem d17 : decode yB 17 = .ok (.sipush 255, 3) := by decide +kernel
theorem d20 : decode yB 20 = .ok (.if_icmp (.le) 6, 3) := by decide +kernel
theorem d26 : decode yB 26 = .ok (.aload_n 2, 1) := by decide +kernel
theorem d27 : decode yB 27 = .ok (.iload_n 3, 1) := by decide +kernel
theorem d28 : decode yB 28 = .ok (.iload 6, 2) := by decide +kernel
theorem d30 : decode yB 30 = .ok (.i2b, 1) := by decide +kernel
theorem d31 : decode yB 31 = .ok (.bastore, 1) := by decide +kernel
theorem d32 : decode yB 32 = .ok (.iinc 1 1, 3) := by decide +kernel
theorem d35 : decode yB 35 = .ok (.iinc 3 1, 3) := by decide +kernel
theorem d38 : decode yB 38 = .ok (.iinc 5 1, 3) := by decide +kernel
theorem d41 : decode yB 41 = .ok (.goto (-38), 3) := by decide +kernel
theorem d44 : decode yB 44 = .ok (.iload 4, 2) := by decide +kernel
theorem d46 : decode yB 46 = .ok (.ireturn, 1) := by decide +kernel
def site : List Cond := []
def tab : Cond := tabOf yN yB 7 (some .int) site
def P (b : Addr) (A : Cell) (d : Addr) (B : Cell) (o q len : Nat) (args : Array Value) (s : State) : Prop := args = #[.ref b, .int (Int32.ofNat o), .ref d, .int (Int32.ofNat q), .int (Int32.ofNat len)] ∧ Ch b A s ∧ Arr .byte d B s ∧ b ≠ d ∧ o + len ≤ A.slots.size ∧ q + len ≤ B.slots.size ∧ ∀ i, i < len → ¬ 255 < cv A (o + i)
def E (b : Addr) (A : Cell) (d : Addr) (B : Cell) (o q len : Nat) (r : Option Value) (s u : State) : Prop := r = some (.int (Int32.ofNat len)) ∧ ∃ B', Put d B' s u ∧ Laid B B' q (q + len) (fun j => Value.int (lo8 (cv A (o + (j - q)))))
/-- no char of the range above 255: len; the places written hold each char's low byte -/
theorem law (l : Launch) (b : Addr) (A : Cell) (d : Addr) (B : Cell) (o q len : Nat) : Law l yN 5 5 0 0 yB 7 (some .int) site (P b A d B o q len) (E b A d B o q len) (copyLocs d q len) 0 0 := by
  refine Law.of_walk (plainFor_of_name (by decide +kernel)) (by decide +kernel) (by decide +kernel) (by decide) (fun _ _ h => by rw [h.1]; rfl) (fun _ U U' hal hh h => ⟨h.1, h.2.1.mv hal hh, h.2.2.1.mv hal hh, h.2.2.2⟩) (fun r U U' V V' h1 hal h2 h => ⟨h.1, h.2.elim fun B' q => ⟨B', q.1.mv h1 h2, q.2⟩⟩) ?_
  intro p e s m args below meth c s₁ X0 hexec hbytes hml hret hlk hnm hown hh0 W hP
  obtain ⟨rfl, hA, hB, hne, l1, l2, hp⟩ := hP
  have c1 : Steps p.tables e below (s₁.setTop (entryFrame m #[.ref b, .int (Int32.ofNat o), .ref d, .int (Int32.ofNat q), .int (Int32.ofNat len)] 7)) (s₁.setTop (mkF m 0 #[.val (.ref b), .val (.int (Int32.ofNat o)), .val (.ref d), .val (.int (Int32.ofNat q)), .val (.int (Int32.ofNat len)), .unset, .unset] [])) := entry rfl
  have hA0 := hA.1.mv X0.warmed.alike hh0
  have hB0 := hB.mv X0.warmed.alike hh0
  have a31 := hA.1.2.2.2
  have c2 : Steps p.tables e below (s₁.setTop (entryFrame m #[.ref b, .int (Int32.ofNat o), .ref d, .int (Int32.ofNat q), .int (Int32.ofNat len)] 7)) (s₁.setTop (mkF m 3 #[.val (.ref b), .val (.int (Int32.ofNat o)), .val (.ref d), .val (.int (Int32.ofNat q)), .val (.int (Int32.ofNat len)), .val (.int 0), .unset] [])) := c1.trans (by
    refine iconstV X0.here hexec rfl 0 (hb hbytes d0) (by decide) ?_
    refine XS.istore X0.here hexec rfl (hb hbytes d1) rfl rfl ?_
    exact Steps.refl _)
  have loop : ∀ (r i : Nat), i + r = len → ∀ (z : Slot), (z = .unset ∨ ∃ w, z = .val w ∧ w.category = 1) → ∀ (Tl : State) (Bk : Cell), Stand p l e { frames := 0, locals := 0, cells := 0, slots := 0 } s m #[.ref b, .int (Int32.ofNat o), .ref d, .int (Int32.ofNat q), .int (Int32.ofNat len)] below meth c Tl ([] ++ copyLocs d q i) 0 0 → Put d Bk s₁ Tl → Laid B Bk q (q + i) (fun j => Value.int (lo8 (cv A (o + (j - q))))) →
      Steps p.tables e below (s₁.setTop (entryFrame m #[.ref b, .int (Int32.ofNat o), .ref d, .int (Int32.ofNat q), .int (Int32.ofNat len)] 7)) (Tl.setTop (mkF m 3 #[.val (.ref b), .val (.int (Int32.ofNat (o + i))), .val (.ref d), .val (.int (Int32.ofNat (q + i))), .val (.int (Int32.ofNat len)), .val (.int (Int32.ofNat i)), z] [])) → ∃ (T' : State) (B' : Cell) (z' : Slot), Stand p l e { frames := 0, locals := 0, cells := 0, slots := 0 } s m #[.ref b, .int (Int32.ofNat o), .ref d, .int (Int32.ofNat q), .int (Int32.ofNat len)] below meth c T' ([] ++ copyLocs d q len) 0 0 ∧ Put d B' s₁ T' ∧ Laid B B' q (q + len) (fun j => Value.int (lo8 (cv A (o + (j - q))))) ∧
      Steps p.tables e below (s₁.setTop (entryFrame m #[.ref b, .int (Int32.ofNat o), .ref d, .int (Int32.ofNat q), .int (Int32.ofNat len)] 7)) (T'.setTop (mkF m 3 #[.val (.ref b), .val (.int (Int32.ofNat (o + len))), .val (.ref d), .val (.int (Int32.ofNat (q + len))), .val (.int (Int32.ofNat len)), .val (.int (Int32.ofNat len)), z'] [])) := by
    intro r
    induction r with
    | zero =>
      intro i hi z hz Tl Bk Xl pl fl cl
      have hil : i = len := by omega
      rw [hil] at Xl fl cl
      exact ⟨Tl, Bk, z, Xl, pl, fl, cl⟩
    | succ r ih =>
      intro i hi z hz Tl Bk Xl pl fl cl
      have all := X0.warmed.alike.symm.trans Xl.warmed.alike
      have hAl := hA0.keep all (pl.other hne hA0.1)
      have hBk := hB0.like all pl.1 fl.1 fl.2.1 fl.2.2.1
      have hlt : q + i < Bk.slots.size := by rw [fl.2.2.1]; omega
      have c3 : Steps p.tables e below (s₁.setTop (entryFrame m #[.ref b, .int (Int32.ofNat o), .ref d, .int (Int32.ofNat q), .int (Int32.ofNat len)] 7)) (Tl.setTop (mkF m 12 #[.val (.ref b), .val (.int (Int32.ofNat (o + i))), .val (.ref d), .val (.int (Int32.ofNat (q + i))), .val (.int (Int32.ofNat len)), .val (.int (Int32.ofNat i)), z] [.int (Int32.ofNat (o + i)), .ref b])) := cl.trans (by
        refine XS.iload Xl.here hexec rfl (hb hbytes d3) rfl ?_
        refine XS.iload Xl.here hexec rfl (hb hbytes d5) rfl ?_
        refine XS.icmpNo Xl.here hexec rfl (hb hbytes d7) rfl (ii_ge_f (lt32 (by omega) (by omega))) ?_
        refine XS.aloadN Xl.here hexec rfl (hb hbytes d10) rfl rfl ?_
        refine XS.iloadN Xl.here hexec rfl (hb hbytes d11) rfl ?_
        exact Steps.refl _)
      have c4 : Steps p.tables e below (s₁.setTop (entryFrame m #[.ref b, .int (Int32.ofNat o), .ref d, .int (Int32.ofNat q), .int (Int32.ofNat len)] 7)) (Tl.setTop (mkF m 13 #[.val (.ref b), .val (.int (Int32.ofNat (o + i))), .val (.ref d), .val (.int (Int32.ofNat (q + i))), .val (.int (Int32.ofNat len)), .val (.int (Int32.ofNat i)), z] [.int (cv A (o + i))])) := c3.trans (by
        refine Xl.aget hexec hAl rfl (hA.get (i := o + i) (by omega)) rfl rfl (hb hbytes d12) ?_
        exact Steps.refl _)
      have c5 : Steps p.tables e below (s₁.setTop (entryFrame m #[.ref b, .int (Int32.ofNat o), .ref d, .int (Int32.ofNat q), .int (Int32.ofNat len)] 7)) (Tl.setTop (mkF m 15 #[.val (.ref b), .val (.int (Int32.ofNat (o + i))), .val (.ref d), .val (.int (Int32.ofNat (q + i))), .val (.int (Int32.ofNat len)), .val (.int (Int32.ofNat i)), .val (.int (cv A (o + i)))] [])) := c4.trans (by
        refine XS.istoreS Xl.here hexec rfl (hb hbytes d13) rfl rfl hz ?_
        exact Steps.refl _)
      have c6 : Steps p.tables e below (s₁.setTop (entryFrame m #[.ref b, .int (Int32.ofNat o), .ref d, .int (Int32.ofNat q), .int (Int32.ofNat len)] 7)) (Tl.setTop (mkF m 31 #[.val (.ref b), .val (.int (Int32.ofNat (o + i))), .val (.ref d), .val (.int (Int32.ofNat (q + i))), .val (.int (Int32.ofNat len)), .val (.int (Int32.ofNat i)), .val (.int (cv A (o + i)))] [.int (lo8 (cv A (o + i))), .int (Int32.ofNat (q + i)), .ref d])) := c5.trans (by
        refine XS.iload Xl.here hexec rfl (hb hbytes d15) rfl ?_
        refine sipushV Xl.here hexec rfl 255 (hb hbytes d17) (by decide) ?_
        refine XS.icmpYes Xl.here hexec rfl (pc0 := 20) rfl (hb hbytes d20) rfl (ii_le_t (hp i (by omega))) (by decide) rfl ?_
        refine XS.aloadN Xl.here hexec rfl (hb hbytes d26) rfl rfl ?_
        refine XS.iloadN Xl.here hexec rfl (hb hbytes d27) rfl ?_
        refine XS.iload Xl.here hexec rfl (hb hbytes d28) rfl ?_
        refine i2b Xl.here hexec rfl (hb hbytes d30) rfl ?_
        exact Steps.refl _)
      obtain ⟨T7, X7, p7, st7⟩ := Xl.aput hexec hBk rfl hlt rfl (fits_lo8 (cv A (o + i))) (g := (mkF m 31 #[.val (.ref b), .val (.int (Int32.ofNat (o + i))), .val (.ref d), .val (.int (Int32.ofNat (q + i))), .val (.int (Int32.ofNat len)), .val (.int (Int32.ofNat i)), .val (.int (cv A (o + i)))] [.int (lo8 (cv A (o + i))), .int (Int32.ofNat (q + i)), .ref d])) rfl (rest := []) rfl (hb hbytes d31)
      have c8 : Steps p.tables e below (s₁.setTop (entryFrame m #[.ref b, .int (Int32.ofNat o), .ref d, .int (Int32.ofNat q), .int (Int32.ofNat len)] 7)) (T7.setTop (mkF m 32 #[.val (.ref b), .val (.int (Int32.ofNat (o + i))), .val (.ref d), .val (.int (Int32.ofNat (q + i))), .val (.int (Int32.ofNat len)), .val (.int (Int32.ofNat i)), .val (.int (cv A (o + i)))] [])) := c6.trans (st7 _ (Steps.refl _))
      have c9 : Steps p.tables e below (s₁.setTop (entryFrame m #[.ref b, .int (Int32.ofNat o), .ref d, .int (Int32.ofNat q), .int (Int32.ofNat len)] 7)) (T7.setTop (mkF m 3 #[.val (.ref b), .val (.int (Int32.ofNat (o + i) + 1)), .val (.ref d), .val (.int (Int32.ofNat (q + i) + 1)), .val (.int (Int32.ofNat len)), .val (.int (Int32.ofNat i + 1)), .val (.int (cv A (o + i)))] [])) := c8.trans (by
        refine iincV X7.here hexec rfl 1 (hb hbytes d32) (by decide) rfl rfl ?_
        refine iincV X7.here hexec rfl 1 (hb hbytes d35) (by decide) rfl rfl ?_
        refine iincV X7.here hexec rfl 1 (hb hbytes d38) (by decide) rfl rfl ?_
        refine XS.goto X7.here hexec rfl (pc0 := 41) rfl (hb hbytes d41) (by decide) rfl ?_
        exact Steps.refl _)
      have c10 : Steps p.tables e below (s₁.setTop (entryFrame m #[.ref b, .int (Int32.ofNat o), .ref d, .int (Int32.ofNat q), .int (Int32.ofNat len)] 7)) (T7.setTop (mkF m 3 #[.val (.ref b), .val (.int (Int32.ofNat (o + (i + 1)))), .val (.ref d), .val (.int (Int32.ofNat (q + (i + 1)))), .val (.int (Int32.ofNat len)), .val (.int (Int32.ofNat (i + 1))), .val (.int (cv A (o + i)))] [])) := by
        have := c9
        rw [succ32, succ32, succ32] at this
        exact this
      exact ih (i + 1) (by omega) _ (Or.inr ⟨_, rfl, rfl⟩) T7 _ (by rw [copyLocs_step, ← List.append_assoc]; exact X7) (pl.trans p7) (fl.step (by omega) hlt (by simp)) c10
  obtain ⟨T9, B9, z9, X9, p9, f9, g9⟩ := loop len 0 (by omega) .unset (Or.inl rfl) s₁ B (by simpa [copyLocs] using X0) ⟨hB0.1, fun _ _ => rfl, rfl⟩ (Laid.zero _ _ _) c2
  have c11 : Steps p.tables e below (s₁.setTop (entryFrame m #[.ref b, .int (Int32.ofNat o), .ref d, .int (Int32.ofNat q), .int (Int32.ofNat len)] 7)) (T9.setTop (mkF m 46 #[.val (.ref b), .val (.int (Int32.ofNat (o + len))), .val (.ref d), .val (.int (Int32.ofNat (q + len))), .val (.int (Int32.ofNat len)), .val (.int (Int32.ofNat len)), z9] [.int (Int32.ofNat len)])) := g9.trans (by
    refine XS.iload X9.here hexec rfl (hb hbytes d3) rfl ?_
    refine XS.iload X9.here hexec rfl (hb hbytes d5) rfl ?_
    refine XS.icmpYes X9.here hexec rfl (pc0 := 7) rfl (hb hbytes d7) rfl (ii_ge_t (nlt32 (by omega) (Nat.le_refl _))) (by decide) rfl ?_
    refine XS.iload X9.here hexec rfl (hb hbytes d44) rfl ?_
    exact Steps.refl _)
  exact ⟨T9, some (.int (Int32.ofNat len)), _, _, _, X9, by simp, rfl, rfl, (fun h => by cases h), ⟨rfl, B9, p9.from hh0, f9⟩, fun fs hl => c11.trans (X9.ireturnOut hexec hret rfl (Or.inl rfl) (hb hbytes d46) hl)⟩
end Cmp5
namespace Cmp3
def yN : MethodName := ⟨"java/lang/StringUTF16", "compress", "([CII)[B"⟩
abbrev yB : ByteArray := jdk_52_method_16_code
theorem d0 : decode yB 0 = .ok (.iload_n 2, 1) := by decide +kernel
theorem d1 : decode yB 1 = .ok (.newarray .byte, 2) := by decide +kernel
theorem d3 : decode yB 3 = .ok (.astore_n 3, 1) := by decide +kernel
theorem d4 : decode yB 4 = .ok (.aload_n 0, 1) := by decide +kernel
theorem d5 : decode yB 5 = .ok (.iload_n 1, 1) := by decide +kernel
theorem d6 : decode yB 6 = .ok (.aload_n 3, 1) := by decide +kernel
theorem d7 : decode yB 7 = .ok (.iconst 0, 1) := by decide +kernel
theorem d8 : decode yB 8 = .ok (.iload_n 2, 1) := by decide +kernel
theorem d9 : decode yB 9 = .ok (.invokestatic 115, 3) := by decide +kernel
theorem d12 : decode yB 12 = .ok (.istore 4, 2) := by decide +kernel
theorem d14 : decode yB 14 = .ok (.iload 4, 2) := by decide +kernel
theorem d16 : decode yB 16 = .ok (.iload_n 2, 1) := by decide +kernel
theorem d17 : decode yB 17 = .ok (.if_icmp (.eq) 40, 3) := by decide +kernel
theorem d57 : decode yB 57 = .ok (.aload_n 3, 1) := by decide +kernel
theorem d58 : decode yB 58 = .ok (.areturn, 1) := by decide +kernel
def site : List Cond := [.arrayClass .byte, Cmp5.tab] ++ staticW U16 115 Cmp5.yN
def tab : Cond := tabOf yN yB 6 (some (.array .byte)) site
def P (b : Addr) (A : Cell) (o len : Nat) (args : Array Value) (s : State) : Prop := args = #[.ref b, .int (Int32.ofNat o), .int (Int32.ofNat len)] ∧ Ch b A s ∧ o + len ≤ A.slots.size ∧ len ≤ 536870912 ∧ ∀ i, i < len → ¬ 255 < cv A (o + i)
def E (b : Addr) (A : Cell) (o len : Nat) (r : Option Value) (s u : State) : Prop := NewArr .byte "[B" len (fun j => .int (lo8 (cv A (o + j)))) r s u ∧ u.heap.size = s.heap.size + 1
/-- no char of the range above 255: a new byte[] of their low bytes -/
theorem law (l : Launch) (b : Addr) (A : Cell) (o len : Nat) : Law l yN 3 3 1 18 yB 6 (some (.array .byte)) site (P b A o len) (E b A o len) [] 1 len := by
  refine Law.of_walk (plainFor_of_name (by decide +kernel)) (by decide +kernel) (by decide +kernel) (by decide) (fun _ _ h => by rw [h.1]; rfl) (fun _ U U' hal hh h => ⟨h.1, h.2.1.mv hal hh, h.2.2⟩) (fun r U U' V V' h1 hal h2 h => ⟨NewArr.mv r U U' V V' h1 hal h2 h.1, by rw [h1, h2]; exact h.2⟩) ?_
  intro p e s m args below meth c s₁ X0 hexec hbytes hml hret hlk hnm hown hh0 W hP
  obtain ⟨rfl, hA, l1, l2, hp⟩ := hP
  have a31 := hA.1.2.2.2
  have c1 : Steps p.tables e below (s₁.setTop (entryFrame m #[.ref b, .int (Int32.ofNat o), .int (Int32.ofNat len)] 6)) (s₁.setTop (mkF m 0 #[.val (.ref b), .val (.int (Int32.ofNat o)), .val (.int (Int32.ofNat len)), .unset, .unset, .unset] [])) := entry rfl
  have c2 : Steps p.tables e below (s₁.setTop (entryFrame m #[.ref b, .int (Int32.ofNat o), .int (Int32.ofNat len)] 6)) (s₁.setTop (mkF m 1 #[.val (.ref b), .val (.int (Int32.ofNat o)), .val (.int (Int32.ofNat len)), .unset, .unset, .unset] [.int (Int32.ofNat len)])) := c1.trans (by
    refine XS.iloadN X0.here hexec rfl (hb hbytes d0) rfl ?_
    exact Steps.refl _)
  obtain ⟨T3, B3, X3, ba3, bs3, bv3, bh3, bf3, st3⟩ := X0.anew hexec (atype := .byte) (wk W (.arrayClass .byte)) rfl (by show len * 1 ≤ _; omega) (by omega) (g := (mkF m 1 #[.val (.ref b), .val (.int (Int32.ofNat o)), .val (.int (Int32.ofNat len)), .unset, .unset, .unset] [.int (Int32.ofNat len)])) rfl (hb hbytes d1) (rest := []) rfl (Nat.le_refl _) (by show 0 + len ≤ len; omega)
  rw [hh0] at ba3 st3
  have kp3 : XT.Kept s T3 := (XT.Kept.of_eq hh0).push bh3
  have hA3 := hA.keep X3.warmed.alike (kp3 _ _ hA.1.1)
  have hne : b ≠ s.heap.size := hA.1.ne
  have c4 : Steps p.tables e below (s₁.setTop (entryFrame m #[.ref b, .int (Int32.ofNat o), .int (Int32.ofNat len)] 6)) (T3.setTop (mkF m 3 #[.val (.ref b), .val (.int (Int32.ofNat o)), .val (.int (Int32.ofNat len)), .unset, .unset, .unset] [.ref s.heap.size])) := c2.trans (st3 _ (Steps.refl _))
  have c5 : Steps p.tables e below (s₁.setTop (entryFrame m #[.ref b, .int (Int32.ofNat o), .int (Int32.ofNat len)] 6)) (T3.setTop (mkF m 9 #[.val (.ref b), .val (.int (Int32.ofNat o)), .val (.int (Int32.ofNat len)), .val (.ref s.heap.size), .unset, .unset] [.int (Int32.ofNat len), .int 0, .ref s.heap.size, .int (Int32.ofNat o), .ref b])) := c4.trans (by
    refine XS.astoreN X3.here hexec rfl (hb hbytes d3) rfl rfl rfl ?_
    refine XS.aloadN X3.here hexec rfl (hb hbytes d4) rfl rfl ?_
    refine XS.iloadN X3.here hexec rfl (hb hbytes d5) rfl ?_
    refine XS.aloadN X3.here hexec rfl (hb hbytes d6) rfl rfl ?_
    refine iconstV X3.here hexec rfl 0 (hb hbytes d7) (by decide) ?_
    refine XS.iloadN X3.here hexec rfl (hb hbytes d8) rfl ?_
    exact Steps.refl _)
  obtain ⟨v6, T6, X6, E6, g6⟩ := X3.callS hexec (Cmp5.law l b A s.heap.size B3 o 0 len) hown (wks W (staticW U16 115 Cmp5.yN)) (wk W Cmp5.tab) (W := 0) (Nat.le_of_ble_eq_true rfl) (Nat.le_of_ble_eq_true rfl) (Nat.le_refl _) (by show 0 + len + 0 ≤ len; omega) (g := (mkF m 9 #[.val (.ref b), .val (.int (Int32.ofNat o)), .val (.int (Int32.ofNat len)), .val (.ref s.heap.size), .unset, .unset] [.int (Int32.ofNat len), .int (Int32.ofNat 0), .ref s.heap.size, .int (Int32.ofNat o), .ref b])) rfl (by rw [hml]; rfl) c5 (argsL := [.ref b, .int (Int32.ofNat o), .ref s.heap.size, .int (Int32.ofNat 0), .int (Int32.ofNat len)]) (rest := []) rfl rfl (by show 2 * 0 + 0 ≤ _; decide) (hb hbytes d9) (⟨rfl, hA3, ba3, hne, l1, by rw [bs3]; simp, hp⟩)
  obtain ⟨rfl, B6, p6, f6⟩ := E6
  have c7 : Steps p.tables e below (s₁.setTop (entryFrame m #[.ref b, .int (Int32.ofNat o), .int (Int32.ofNat len)] 6)) (T6.setTop (mkF m 12 #[.val (.ref b), .val (.int (Int32.ofNat o)), .val (.int (Int32.ofNat len)), .val (.ref s.heap.size), .unset, .unset] [.int (Int32.ofNat len)])) := g6
  have c8 : Steps p.tables e below (s₁.setTop (entryFrame m #[.ref b, .int (Int32.ofNat o), .int (Int32.ofNat len)] 6)) (T6.setTop (mkF m 58 #[.val (.ref b), .val (.int (Int32.ofNat o)), .val (.int (Int32.ofNat len)), .val (.ref s.heap.size), .val (.int (Int32.ofNat len)), .unset] [.ref s.heap.size])) := c7.trans (by
    refine XS.istore X6.here hexec rfl (hb hbytes d12) rfl rfl ?_
    refine XS.iload X6.here hexec rfl (hb hbytes d14) rfl ?_
    refine XS.iloadN X6.here hexec rfl (hb hbytes d16) rfl ?_
    refine XS.icmpYes X6.here hexec rfl (pc0 := 17) rfl (hb hbytes d17) rfl (ii_eq_t rfl) (by decide) rfl ?_
    refine XS.aloadN X6.here hexec rfl (hb hbytes d57) rfl rfl ?_
    exact Steps.refl _)
  have X8 := X6.wide (L' := []) (cells' := 1) (slots' := len) (fun x hx hlt => by
    simp only [List.nil_append, copyLocs, List.mem_map, List.mem_range] at hx
    obtain ⟨i, -, rfl⟩ := hx
    exact absurd hlt (Nat.lt_irrefl _)) (Nat.le_refl _) (by omega)
  exact ⟨T6, some (.ref s.heap.size), _, _, _, X8, rfl, rfl, rfl, (fun h => by cases h), ⟨⟨rfl, B6, ba3.like (X3.warmed.alike.symm.trans X6.warmed.alike) p6.1 f6.1 f6.2.1 f6.2.2.1, f6.2.1.trans bv3, by rw [X6.warmed.alike.findClass, f6.1]; exact bf3, by rw [f6.2.2.1, bs3]; simp, fun j hj => by rw [f6.2.2.2 j, if_pos (by omega)]; rfl, kp3.put p6 (Nat.le_refl _)⟩, by rw [p6.2.2, bh3, hh0]; simp⟩, fun fs hl => c8.trans (X8.areturnOut hexec rfl hret rfl (hb hbytes d58) hl)⟩
end Cmp3
namespace CodL
def yN : MethodName := ⟨"java/lang/StringUTF16", "coderFromArrayLen", "([BI)B"⟩
abbrev yB : ByteArray := jdk_52_method_15_code
theorem d0 : decode yB 0 = .ok (.iload_n 1, 1) := by decide +kernel
theorem d1 : decode yB 1 = .ok (.aload_n 0, 1) := by decide +kernel
theorem d2 : decode yB 2 = .ok (.arraylength, 1) := by decide +kernel
theorem d3 : decode yB 3 = .ok (.isub, 1) := by decide +kernel
theorem d4 : decode yB 4 = .ok (.bipush 31, 2) := by decide +kernel
theorem d6 : decode yB 6 = .ok (.iushr, 1) := by decide +kernel
theorem d7 : decode yB 7 = .ok (.i2b, 1) := by decide +kernel
theorem d8 : decode yB 8 = .ok (.ireturn, 1) := by decide +kernel
def site : List Cond := []
def tab : Cond := tabOf yN yB 2 (some .byte) site
def P (d : Addr) (B : Cell) (args : Array Value) (s : State) : Prop := args = #[.ref d, .int (Int32.ofNat B.slots.size)] ∧ Arr .byte d B s
def E (r : Option Value) (s u : State) : Prop := XT.PureE (some (.int 0)) r s u
/-- an array as long as the number of chars: LATIN1 -/
theorem law (l : Launch) (d : Addr) (B : Cell) : Law l yN 2 2 0 0 yB 2 (some .byte) site (P d B) E [] 0 0 := by
  refine Law.of_walk (plainFor_of_name (by decide +kernel)) (by decide +kernel) (by decide +kernel) (by decide) (fun _ _ h => by rw [h.1]; rfl) (fun _ U U' hal hh h => ⟨h.1, h.2.mv hal hh⟩) (fun r U U' V V' h1 hal h2 h => XT.PureE.mv r U U' V V' h1 hal h2 h) ?_
  intro p e s m args below meth c s₁ X0 hexec hbytes hml hret hlk hnm hown hh0 W hP
  obtain ⟨rfl, hB⟩ := hP
  have hB0 := hB.mv X0.warmed.alike hh0
  have c1 : Steps p.tables e below (s₁.setTop (entryFrame m #[.ref d, .int (Int32.ofNat B.slots.size)] 2)) (s₁.setTop (mkF m 0 #[.val (.ref d), .val (.int (Int32.ofNat B.slots.size))] [])) := entry rfl
  have c2 : Steps p.tables e below (s₁.setTop (entryFrame m #[.ref d, .int (Int32.ofNat B.slots.size)] 2)) (s₁.setTop (mkF m 2 #[.val (.ref d), .val (.int (Int32.ofNat B.slots.size))] [.ref d, .int (Int32.ofNat B.slots.size)])) := c1.trans (by
    refine XS.iloadN X0.here hexec rfl (hb hbytes d0) rfl ?_
    refine XS.aloadN X0.here hexec rfl (hb hbytes d1) rfl rfl ?_
    exact Steps.refl _)
  have c3 : Steps p.tables e below (s₁.setTop (entryFrame m #[.ref d, .int (Int32.ofNat B.slots.size)] 2)) (s₁.setTop (mkF m 8 #[.val (.ref d), .val (.int (Int32.ofNat B.slots.size))] [.int (lo8 (ushr (Int32.ofNat B.slots.size - Int32.ofNat B.slots.size) 31))])) := c2.trans (by
    refine X0.alen hexec hB0 rfl rfl (hb hbytes d2) ?_
    refine XS.isub X0.here hexec rfl (hb hbytes d3) rfl ?_
    refine bipushV X0.here hexec rfl 31 (hb hbytes d4) (by decide) ?_
    refine iushr X0.here hexec rfl (hb hbytes d6) rfl ?_
    refine i2b X0.here hexec rfl (hb hbytes d7) rfl ?_
    exact Steps.refl _)
  have e0 : lo8 (ushr (Int32.ofNat B.slots.size - Int32.ofNat B.slots.size) 31) = 0 := by rw [Int32.sub_self]; decide
  rw [e0] at c3
  exact ⟨s₁, some (.int 0), _, _, _, X0, rfl, rfl, rfl, (fun h => by cases h), ⟨rfl, hh0⟩, fun fs hl => c3.trans (X0.ireturnOut hexec hret rfl (Or.inr (Or.inr (Or.inl rfl))) (hb hbytes d8) hl)⟩
end CodL
/-- the String at a is Latin-1 over a new byte[] (the heap's one new cell): the low bytes of the len chars of A from o on; every cell but a is kept -/
def Got (a : Addr) (D : Cell) (fV fC : Field) (A : Cell) (o len : Nat) (r : Option Value) (s u : State) : Prop := r = none ∧ ∃ D' V : Cell, Blank "java/lang/String" a D' u ∧ Same D D' [fV.slot, fC.slot] ∧ D'.slots[fV.slot]? = some (.ref s.heap.size) ∧ D'.slots[fC.slot]? = some (.int 0) ∧ Arr .byte s.heap.size V u ∧ V.vm = .none ∧ u.vm.findClass "[B" = some V.cls ∧ V.slots.size = len ∧ (∀ j, j < len → V.slots[j]? = some (.int (lo8 (cv A (o + j))))) ∧ (∀ (y : Addr) (c : Cell), y ≠ a → s.heap[y]? = some c → u.heap[y]? = some c) ∧ u.heap.size = s.heap.size + 1
theorem Got.mv {a : Addr} {D A : Cell} {fV fC : Field} {o len : Nat} : ∀ r (U U' V V' : State), U'.heap = U.heap → V.vm.Alike V'.vm → V'.heap = V.heap → Got a D fV fC A o len r U V → Got a D fV fC A o len r U' V' :=
  fun r U U' V V' h1 hal h2 ⟨e0, D', X, a1, a2, a3, a4, a5, a6, a7, a8, a9, a10, a11⟩ => ⟨e0, D', X, a1.mv hal h2, a2, by rw [h1]; exact a3, a4, by rw [h1]; exact a5.mv hal h2, a6, by rw [hal.findClass]; exact a7, a8, a9, by rw [h1, h2]; exact a10, by rw [h1, h2]; exact a11⟩
namespace New4
def yN : MethodName := ⟨"java/lang/String", "<init>", "([CIILjava/lang/Void;)V"⟩
abbrev yB : ByteArray := jdk_42_method_149_code
theorem d0 : decode yB 0 = .ok (.aload_n 0, 1) := by decide +kernel
theorem d1 : decode yB 1 = .ok (.invokespecial 1, 3) := by decide +kernel
theorem d4 : decode yB 4 = .ok (.iload_n 3, 1) := by decide +kernel
theorem d5 : decode yB 5 = .ok (.ifCond (.ne) 22, 3) := by decide +kernel
theorem d27 : decode yB 27 = .ok (.getstatic 38, 3) := by decide +kernel
theorem d30 : decode yB 30 = .ok (.ifCond (.eq) 28, 3) := by decide +kernel
theorem d33 : decode yB 33 = .ok (.aload_n 1, 1) := by decide +kernel
theorem d34 : decode yB 34 = .ok (.iload_n 2, 1) := by decide +kernel
theorem d35 : decode yB 35 = .ok (.iload_n 3, 1) := by decide +kernel
theorem d36 : decode yB 36 = .ok (.invokestatic 177, 3) := by decide +kernel
theorem d39 : decode yB 39 = .ok (.astore 5, 2) := by decide +kernel
theorem d41 : decode yB 41 = .ok (.aload_n 0, 1) := by decide +kernel
theorem d42 : decode yB 42 = .ok (.aload 5, 2) := by decide +kernel
theorem d44 : decode yB 44 = .ok (.iload_n 3, 1) := by decide +kernel
theorem d45 : decode yB 45 = .ok (.invokestatic 47, 3) := by decide +kernel
theorem d48 : decode yB 48 = .ok (.putfield 15, 3) := by decide +kernel
theorem d51 : decode yB 51 = .ok (.aload_n 0, 1) := by decide +kernel
theorem d52 : decode yB 52 = .ok (.aload 5, 2) := by decide +kernel
theorem d54 : decode yB 54 = .ok (.putfield 9, 3) := by decide +kernel
theorem d57 : decode yB 57 = .ok (.return_, 1) := by decide +kernel
def site : List Cond := [.fieldLink "java/lang/String" 38 "java/lang/String" "COMPACT_STRINGS" "Z", Cmp3.tab, CodL.tab, .laysFinal "java/lang/String" "java/lang/String" "value" "[B", .fieldLink "java/lang/String" 9 "java/lang/String" "value" "[B", .laysFinal "java/lang/String" "java/lang/String" "coder" "B", .fieldLink "java/lang/String" 15 "java/lang/String" "coder" "B"] ++ objW "java/lang/String" 1 ++ staticW "java/lang/String" 177 Cmp3.yN ++ staticW "java/lang/String" 47 CodL.yN
def tab : Cond := tabOf yN yB 6 none site
def P (a : Addr) (D : Cell) (fV fC : Field) (b : Addr) (A : Cell) (z : Int32) (o len : Nat) (args : Array Value) (s : State) : Prop := args = #[.ref a, .ref b, .int (Int32.ofNat o), .int (Int32.ofNat len), .null] ∧ Blank "java/lang/String" a D s ∧ Found "java/lang/String" "value" "[B" fV s ∧ Found "java/lang/String" "coder" "B" fC s ∧ Ch b A s ∧ StaticIs s "java/lang/String" "COMPACT_STRINGS" "Z" (.int z) ∧ ¬ z = 0 ∧ 0 < len ∧ o + len ≤ A.slots.size ∧ len ≤ 536870912 ∧ ∀ i, i < len → ¬ 255 < cv A (o + i)
def E (a : Addr) (D : Cell) (fV fC : Field) (A : Cell) (o len : Nat) (r : Option Value) (s u : State) : Prop := Got a D fV fC A o len r s u
/-- len > 0, no char of the range above 255: a Latin-1 String of their low bytes -/
theorem law (l : Launch) (a : Addr) (D : Cell) (fV fC : Field) (b : Addr) (A : Cell) (z : Int32) (o len : Nat) : Law l yN 5 4 2 35 yB 6 none site (P a D fV fC b A z o len) (E a D fV fC A o len) [⟨a, fC.slot⟩, ⟨a, fV.slot⟩] 1 len := by
  refine Law.of_walk (plainFor_of_name (by decide +kernel)) (by decide +kernel) (by decide +kernel) (by decide) (fun _ _ h => by rw [h.1]; rfl) (fun _ U U' hal hh h => ⟨h.1, h.2.1.mv hal hh, h.2.2.1.al hal, h.2.2.2.1.al hal, h.2.2.2.2.1.mv hal hh, h.2.2.2.2.2.1.there hal hh, h.2.2.2.2.2.2⟩) (fun r U U' V V' h1 hal h2 h => Got.mv r U U' V V' h1 hal h2 h) ?_
  intro p e s m args below meth c s₁ X0 hexec hbytes hml hret hlk hnm hown hh0 W hP
  obtain ⟨rfl, hB, f1, f2, hA, s1, hz, l0, l1, l2, hp⟩ := hP
  have a31 := hA.1.2.2.2
  have c1 : Steps p.tables e below (s₁.setTop (entryFrame m #[.ref a, .ref b, .int (Int32.ofNat o), .int (Int32.ofNat len), .null] 6)) (s₁.setTop (mkF m 0 #[.val (.ref a), .val (.ref b), .val (.int (Int32.ofNat o)), .val (.int (Int32.ofNat len)), .val .null, .unset] [])) := entry rfl
  have c2 : Steps p.tables e below (s₁.setTop (entryFrame m #[.ref a, .ref b, .int (Int32.ofNat o), .int (Int32.ofNat len), .null] 6)) (s₁.setTop (mkF m 1 #[.val (.ref a), .val (.ref b), .val (.int (Int32.ofNat o)), .val (.int (Int32.ofNat len)), .val .null, .unset] [.ref a])) := c1.trans (by
    refine XS.aloadN X0.here hexec rfl (hb hbytes d0) rfl rfl ?_
    exact Steps.refl _)
  obtain ⟨T3, X3, q3, st3⟩ := X0.oinit hexec hown (wks W (objW "java/lang/String" 1)) (g := (mkF m 1 #[.val (.ref a), .val (.ref b), .val (.int (Int32.ofNat o)), .val (.int (Int32.ofNat len)), .val .null, .unset] [.ref a])) rfl (by rw [hml]; rfl) (rest := []) rfl (hb hbytes d1) (W := 0) (by show 2 * 0 + 0 ≤ _; decide) (Nat.le_of_ble_eq_true rfl) (Nat.le_of_ble_eq_true rfl)
  have hh3 := q3.trans hh0
  have c4 : Steps p.tables e below (s₁.setTop (entryFrame m #[.ref a, .ref b, .int (Int32.ofNat o), .int (Int32.ofNat len), .null] 6)) (T3.setTop (mkF m 27 #[.val (.ref a), .val (.ref b), .val (.int (Int32.ofNat o)), .val (.int (Int32.ofNat len)), .val .null, .unset] [])) := (c2.trans (st3 _ (Steps.refl _))).trans (by
    refine XS.iloadN X3.here hexec rfl (hb hbytes d4) rfl ?_
    refine XS.ifYes X3.here hexec rfl (pc0 := 5) rfl (hb hbytes d5) rfl (i0_ne_t (nz32 (by omega) l0)) (by decide) rfl ?_
    exact Steps.refl _)
  obtain ⟨T5, X5, q5, st5⟩ := X3.sget hexec hown (wk W (.fieldLink "java/lang/String" 38 "java/lang/String" "COMPACT_STRINGS" "Z")) s1 (fun _ _ h => by rw [hh3]; exact h) (g := (mkF m 27 #[.val (.ref a), .val (.ref b), .val (.int (Int32.ofNat o)), .val (.int (Int32.ofNat len)), .val .null, .unset] [])) rfl (hb hbytes d27)
  have hh5 := q5.trans hh3
  have c6 : Steps p.tables e below (s₁.setTop (entryFrame m #[.ref a, .ref b, .int (Int32.ofNat o), .int (Int32.ofNat len), .null] 6)) (T5.setTop (mkF m 30 #[.val (.ref a), .val (.ref b), .val (.int (Int32.ofNat o)), .val (.int (Int32.ofNat len)), .val .null, .unset] [.int z])) := c4.trans (st5 _ (Steps.refl _))
  have c7 : Steps p.tables e below (s₁.setTop (entryFrame m #[.ref a, .ref b, .int (Int32.ofNat o), .int (Int32.ofNat len), .null] 6)) (T5.setTop (mkF m 36 #[.val (.ref a), .val (.ref b), .val (.int (Int32.ofNat o)), .val (.int (Int32.ofNat len)), .val .null, .unset] [.int (Int32.ofNat len), .int (Int32.ofNat o), .ref b])) := c6.trans (by
    refine XS.ifNo X5.here hexec rfl (hb hbytes d30) rfl (i0_eq_f hz) ?_
    refine XS.aloadN X5.here hexec rfl (hb hbytes d33) rfl rfl ?_
    refine XS.iloadN X5.here hexec rfl (hb hbytes d34) rfl ?_
    refine XS.iloadN X5.here hexec rfl (hb hbytes d35) rfl ?_
    exact Steps.refl _)
  obtain ⟨v8, T8, X8, E8, g8⟩ := X5.callS hexec (Cmp3.law l b A o len) hown (wks W (staticW "java/lang/String" 177 Cmp3.yN)) (wk W Cmp3.tab) (W := 0) (Nat.le_of_ble_eq_true rfl) (Nat.le_of_ble_eq_true rfl) (Nat.le_refl _) (by show 0 + len ≤ len; omega) (g := (mkF m 36 #[.val (.ref a), .val (.ref b), .val (.int (Int32.ofNat o)), .val (.int (Int32.ofNat len)), .val .null, .unset] [.int (Int32.ofNat len), .int (Int32.ofNat o), .ref b])) rfl (by rw [hml]; rfl) c7 (argsL := [.ref b, .int (Int32.ofNat o), .int (Int32.ofNat len)]) (rest := []) rfl rfl (by show 2 * 0 + 0 ≤ _; decide) (hb hbytes d36) (⟨rfl, hA.mv X5.warmed.alike hh5, l1, l2, hp⟩)
  obtain ⟨e8, z8⟩ := E8
  obtain ⟨rfl, N, n1, n2, n3, n4, n5, n6⟩ := NewArr.mv _ T5 s _ _ hh5.symm (Vm.Alike.refl _) rfl e8
  rw [hh5] at z8
  have hB1 := hB.keep X8.warmed.alike (n6 _ _ hB.1)
  have hne : s.heap.size ≠ a := (Nat.ne_of_lt (Array.getElem?_eq_some_iff.mp hB.1).1).symm
  have c9 : Steps p.tables e below (s₁.setTop (entryFrame m #[.ref a, .ref b, .int (Int32.ofNat o), .int (Int32.ofNat len), .null] 6)) (T8.setTop (mkF m 39 #[.val (.ref a), .val (.ref b), .val (.int (Int32.ofNat o)), .val (.int (Int32.ofNat len)), .val .null, .unset] [.ref s.heap.size])) := g8
  have c10 : Steps p.tables e below (s₁.setTop (entryFrame m #[.ref a, .ref b, .int (Int32.ofNat o), .int (Int32.ofNat len), .null] 6)) (T8.setTop (mkF m 45 #[.val (.ref a), .val (.ref b), .val (.int (Int32.ofNat o)), .val (.int (Int32.ofNat len)), .val .null, .val (.ref s.heap.size)] [.int (Int32.ofNat N.slots.size), .ref s.heap.size, .ref a])) := by
    have hc : Steps p.tables e below (s₁.setTop (entryFrame m #[.ref a, .ref b, .int (Int32.ofNat o), .int (Int32.ofNat len), .null] 6)) (T8.setTop (mkF m 45 #[.val (.ref a), .val (.ref b), .val (.int (Int32.ofNat o)), .val (.int (Int32.ofNat len)), .val .null, .val (.ref s.heap.size)] [.int (Int32.ofNat len), .ref s.heap.size, .ref a])) := c9.trans (by
      refine XS.astore X8.here hexec rfl (hb hbytes d39) rfl rfl rfl ?_
      refine XS.aloadN X8.here hexec rfl (hb hbytes d41) rfl rfl ?_
      refine XS.aload X8.here hexec rfl (hb hbytes d42) rfl rfl ?_
      refine XS.iloadN X8.here hexec rfl (hb hbytes d44) rfl ?_
      exact Steps.refl _)
    rw [n4]; exact hc
  obtain ⟨v11, T11, X11, E11, g11⟩ := X8.callS hexec (CodL.law l s.heap.size N) hown (wks W (staticW "java/lang/String" 47 CodL.yN)) (wk W CodL.tab) (W := 1) (Nat.le_of_ble_eq_true rfl) (Nat.le_of_ble_eq_true rfl) (Nat.le_refl _) (by show 0 + len + 0 ≤ len; omega) (g := (mkF m 45 #[.val (.ref a), .val (.ref b), .val (.int (Int32.ofNat o)), .val (.int (Int32.ofNat len)), .val .null, .val (.ref s.heap.size)] [.int (Int32.ofNat N.slots.size), .ref s.heap.size, .ref a])) rfl (by rw [hml]; rfl) c10 (argsL := [.ref s.heap.size, .int (Int32.ofNat N.slots.size)]) (rest := [.ref a]) rfl rfl (by show 2 * 0 + (1 + 0) ≤ _; decide) (hb hbytes d45) (⟨rfl, n1⟩)
  obtain ⟨rfl, q11⟩ := E11
  have hB11 := hB1.mv (X8.warmed.alike.symm.trans X11.warmed.alike) q11
  have c12 : Steps p.tables e below (s₁.setTop (entryFrame m #[.ref a, .ref b, .int (Int32.ofNat o), .int (Int32.ofNat len), .null] 6)) (T11.setTop (mkF m 48 #[.val (.ref a), .val (.ref b), .val (.int (Int32.ofNat o)), .val (.int (Int32.ofNat len)), .val .null, .val (.ref s.heap.size)] [.int 0, .ref a])) := g11
  obtain ⟨T13, X13, p13, bl13, sl13, st13⟩ := X11.finit hexec hown (wk W (.fieldLink "java/lang/String" 15 "java/lang/String" "coder" "B")) (Or.inr ⟨_, (wk W (.laysFinal "java/lang/String" "java/lang/String" "coder" "B"))⟩) (Or.inl ⟨rfl, hnm⟩) f2 (Or.inl rfl) hB11 (t := .byte) (by decide +kernel) rfl (g := (mkF m 48 #[.val (.ref a), .val (.ref b), .val (.int (Int32.ofNat o)), .val (.int (Int32.ofNat len)), .val .null, .val (.ref s.heap.size)] [.int 0, .ref a])) rfl (rest := []) rfl (hb hbytes d48)
  have c14 : Steps p.tables e below (s₁.setTop (entryFrame m #[.ref a, .ref b, .int (Int32.ofNat o), .int (Int32.ofNat len), .null] 6)) (T13.setTop (mkF m 54 #[.val (.ref a), .val (.ref b), .val (.int (Int32.ofNat o)), .val (.int (Int32.ofNat len)), .val .null, .val (.ref s.heap.size)] [.ref s.heap.size, .ref a])) := (c12.trans (st13 _ (Steps.refl _))).trans (by
    refine XS.aloadN X13.here hexec rfl (hb hbytes d51) rfl rfl ?_
    refine XS.aload X13.here hexec rfl (hb hbytes d52) rfl rfl ?_
    exact Steps.refl _)
  obtain ⟨T15, X15, p15, bl15, sl15, st15⟩ := X13.finit hexec hown (wk W (.fieldLink "java/lang/String" 9 "java/lang/String" "value" "[B")) (Or.inr ⟨_, (wk W (.laysFinal "java/lang/String" "java/lang/String" "value" "[B"))⟩) (Or.inl ⟨rfl, hnm⟩) f1 (Or.inl rfl) bl13 (t := (.array .byte)) (by decide +kernel) rfl (g := (mkF m 54 #[.val (.ref a), .val (.ref b), .val (.int (Int32.ofNat o)), .val (.int (Int32.ofNat len)), .val .null, .val (.ref s.heap.size)] [.ref s.heap.size, .ref a])) rfl (rest := []) rfl (hb hbytes d54)
  have c16 : Steps p.tables e below (s₁.setTop (entryFrame m #[.ref a, .ref b, .int (Int32.ofNat o), .int (Int32.ofNat len), .null] 6)) (T15.setTop (mkF m 57 #[.val (.ref a), .val (.ref b), .val (.int (Int32.ofNat o)), .val (.int (Int32.ofNat len)), .val .null, .val (.ref s.heap.size)] [])) := c14.trans (st15 _ (Steps.refl _))
  have ap := apart (Or.inr ⟨_, (wk W (.laysFinal "java/lang/String" "java/lang/String" "value" "[B"))⟩) (Or.inr ⟨_, (wk W (.laysFinal "java/lang/String" "java/lang/String" "coder" "B"))⟩) f1 f2 (t₁ := .array .byte) (t₂ := .byte) (by decide +kernel) (by decide +kernel) (by decide)
  have al := X8.warmed.alike.symm.trans X15.warmed.alike
  have n7 : T11.heap[s.heap.size]? = some N := by rw [q11]; exact n1.1
  exact ⟨T15, none, _, _, _, X15, by simp, rfl, by omega, (fun _ => rfl), ⟨rfl, _, N, bl15, ((Same.refl D _).set _ (by simp)).set _ (by simp), sl15, (Cell.slots_setSlot_ne _ ap).trans sl13, n1.keep al (p15.other hne (p13.other hne n7)), n2, by rw [al.findClass]; exact n3, n4, n5, fun y c h1 h2 => p15.other h1 (p13.other h1 (by rw [q11]; exact n6 y c h2)), by rw [p15.2.2, p13.2.2, q11]; exact z8⟩, fun fs hl => c16.trans (X15.returnOut hexec hret (hb hbytes d57) hl)⟩
end New4
namespace New1
def yN : MethodName := ⟨"java/lang/String", "<init>", "([C)V"⟩
abbrev yB : ByteArray := jdk_42_method_3_code
theorem d0 : decode yB 0 = .ok (.aload_n 0, 1) := by decide +kernel
theorem d1 : decode yB 1 = .ok (.aload_n 1, 1) := by decide +kernel
theorem d2 : decode yB 2 = .ok (.iconst 0, 1) := by decide +kernel
theorem d3 : decode yB 3 = .ok (.aload_n 1, 1) := by decide +kernel
theorem d4 : decode yB 4 = .ok (.arraylength, 1) := by decide +kernel
theorem d5 : decode yB 5 = .ok (.aconst_null, 1) := by decide +kernel
theorem d6 : decode yB 6 = .ok (.invokespecial 27, 3) := by decide +kernel
theorem d9 : decode yB 9 = .ok (.return_, 1) := by decide +kernel
def site : List Cond := [New4.tab] ++ initW "java/lang/String" 27 New4.yN
def tab : Cond := tabOf yN yB 2 none site
def P (a : Addr) (D : Cell) (fV fC : Field) (b : Addr) (A : Cell) (z : Int32) (args : Array Value) (s : State) : Prop := args = #[.ref a, .ref b] ∧ Blank "java/lang/String" a D s ∧ Found "java/lang/String" "value" "[B" fV s ∧ Found "java/lang/String" "coder" "B" fC s ∧ Ch b A s ∧ StaticIs s "java/lang/String" "COMPACT_STRINGS" "Z" (.int z) ∧ ¬ z = 0 ∧ 0 < A.slots.size ∧ A.slots.size ≤ 536870912 ∧ ∀ i, i < A.slots.size → ¬ 255 < cv A i
def E (a : Addr) (D : Cell) (fV fC : Field) (A : Cell) (r : Option Value) (s u : State) : Prop := Got a D fV fC A 0 A.slots.size r s u
/-- new String(chars), not empty, no char above 255: a Latin-1 String of their low bytes -/
theorem law (l : Launch) (a : Addr) (D : Cell) (fV fC : Field) (b : Addr) (A : Cell) (z : Int32) : Law l yN 2 1 3 52 yB 2 none site (P a D fV fC b A z) (E a D fV fC A) [⟨a, fC.slot⟩, ⟨a, fV.slot⟩] 1 A.slots.size := by
  refine Law.of_walk (plainFor_of_name (by decide +kernel)) (by decide +kernel) (by decide +kernel) (by decide) (fun _ _ h => by rw [h.1]; rfl) (fun _ U U' hal hh h => ⟨h.1, h.2.1.mv hal hh, h.2.2.1.al hal, h.2.2.2.1.al hal, h.2.2.2.2.1.mv hal hh, h.2.2.2.2.2.1.there hal hh, h.2.2.2.2.2.2⟩) (fun r U U' V V' h1 hal h2 h => Got.mv r U U' V V' h1 hal h2 h) ?_
  intro p e s m args below meth c s₁ X0 hexec hbytes hml hret hlk hnm hown hh0 W hP
  obtain ⟨rfl, hB, f1, f2, hA, s1, hz, l0, l2, hp⟩ := hP
  have c1 : Steps p.tables e below (s₁.setTop (entryFrame m #[.ref a, .ref b] 2)) (s₁.setTop (mkF m 0 #[.val (.ref a), .val (.ref b)] [])) := entry rfl
  have c2 : Steps p.tables e below (s₁.setTop (entryFrame m #[.ref a, .ref b] 2)) (s₁.setTop (mkF m 6 #[.val (.ref a), .val (.ref b)] [.null, .int (Int32.ofNat A.slots.size), .int 0, .ref b, .ref a])) := c1.trans (by
    refine XS.aloadN X0.here hexec rfl (hb hbytes d0) rfl rfl ?_
    refine XS.aloadN X0.here hexec rfl (hb hbytes d1) rfl rfl ?_
    refine iconstV X0.here hexec rfl 0 (hb hbytes d2) (by decide) ?_
    refine XS.aloadN X0.here hexec rfl (hb hbytes d3) rfl rfl ?_
    refine X0.alen hexec (hA.1.mv X0.warmed.alike hh0) rfl rfl (hb hbytes d4) ?_
    refine XS.aconstNull X0.here hexec rfl (hb hbytes d5) ?_
    exact Steps.refl _)
  obtain ⟨v3, T3, X3, E3, g3⟩ := X0.callN hexec (New4.law l a D fV fC b A z 0 A.slots.size) rfl hown (wks W (initW "java/lang/String" 27 New4.yN)) (W New4.tab (by simp only [site, List.mem_cons, List.mem_append, true_or, or_true])) (W := 0) (Nat.le_of_ble_eq_true rfl) (Nat.le_of_ble_eq_true rfl) (Nat.le_refl _) (by show 0 + A.slots.size ≤ A.slots.size; omega) (g := (mkF m 6 #[.val (.ref a), .val (.ref b)] [.null, .int (Int32.ofNat A.slots.size), .int (Int32.ofNat 0), .ref b, .ref a])) rfl (by rw [hml]; rfl) c2 (argsL := [.ref b, .int (Int32.ofNat 0), .int (Int32.ofNat A.slots.size), .null]) (rest := []) rfl rfl (by show 2 * 0 + 0 ≤ _; decide) (hb hbytes d6) (⟨rfl, hB.mv X0.warmed.alike hh0, f1.al X0.warmed.alike, f2.al X0.warmed.alike, hA.mv X0.warmed.alike hh0, s1.there X0.warmed.alike hh0, hz, l0, by omega, l2, fun i hi => by rw [Nat.zero_add]; exact hp i hi⟩)
  have e0 := Got.mv _ s₁ s _ _ hh0.symm (Vm.Alike.refl _) rfl E3
  obtain rfl := e0.1
  have c4 : Steps p.tables e below (s₁.setTop (entryFrame m #[.ref a, .ref b] 2)) (T3.setTop (mkF m 9 #[.val (.ref a), .val (.ref b)] [])) := g3
  exact ⟨T3, none, _, _, _, X3, by simp, rfl, by omega, (fun _ => rfl), e0, fun fs hl => c4.trans (X3.returnOut hexec hret (hb hbytes d9) hl)⟩
theorem pays {l : Launch} {R : Room} {p : Program} {e : Env} {below : List Frame} {s : State} {sargs : Array Value} {len W : Nat} (a : Addr) (D : Cell) (fV fC : Field) (b : Addr) (A : Cell) (z : Int32) (htab : tab.before sargs s = true) (hfr : 4 ≤ R.frames) (hlo : W + 65 ≤ R.locals) :
    Back l R p e below s sargs yN len W (fun A₁ a₁ => A₁.cells + 1 ≤ R.cells ∧ A₁.slots + A.slots.size ≤ R.slots ∧ P a D fV fC b A z a₁ A₁.U) (fun A₁ _ v₁ B₁ => E a D fV fC A v₁ A₁.U B₁.U ∧ B₁.locs = A₁.locs ++ [⟨a, fC.slot⟩, ⟨a, fV.slot⟩] ∧ B₁.cells = A₁.cells + 1 ∧ B₁.slots = A₁.slots + A.slots.size) :=
  (law l a D fV fC b A z).pays htab hfr (by omega)
end New1
/-- the byte, read back as charAt reads it, is the char -/
theorem lo8_mask {x : Int32} (h0 : ¬ x < 0) (h1 : ¬ 255 < x) : lo8 x &&& 255 = x := by
  have t : ∀ k : Fin 256, lo8 (Int32.ofNat k.val) &&& 255 = Int32.ofNat k.val := by decide +kernel
  rw [Int32.lt_iff_toInt_lt] at h0 h1
  have e0 : (0 : Int32).toInt = 0 := rfl
  have e1 : (255 : Int32).toInt = 255 := rfl
  obtain ⟨k, hk⟩ : ∃ k : Nat, x.toInt = k := ⟨x.toInt.toNat, by omega⟩
  have hx : x = Int32.ofNat k := Int32.toInt_inj.mp (by rw [hk, Int32.toInt_ofNat_small (by omega)])
  rw [hx]
  exact t ⟨k, by omega⟩
end StrChars
namespace StrChars.Road
open Jvm Sem ClassFile Op Lib Jvm.Stand Jvm.Free Jvm.Free.XT
open Jvm.Lib.Cold (StaticIs)
abbrev ST : String := "java/lang/String"
/-- every table word that New1's law asks, flat -/
abbrev words : List Jvm.Cond := [.code New1.yN New1.yB 2 none, .initialized ST, .methodLink ST 27 New4.yN, .instanceMethod New4.yN,
  .code New4.yN New4.yB 6 none, .fieldLink ST 38 ST "COMPACT_STRINGS" "Z", .laysFinal ST ST "value" "[B", .fieldLink ST 9 ST "value" "[B", .laysFinal ST ST "coder" "B", .fieldLink ST 15 ST "coder" "B",
  .methodLink ST 1 Lib.objectInit, .instanceMethod Lib.objectInit, .code Lib.objectInit ⟨#[0xb1]⟩ 1 none, .methodLink ST 177 Cmp3.yN, .static Cmp3.yN, .methodLink ST 47 CodL.yN, .static CodL.yN,
  .code Cmp3.yN Cmp3.yB 6 (some (.array .byte)), .initialized U16, .arrayClass .byte, .methodLink U16 115 Cmp5.yN, .static Cmp5.yN, .code Cmp5.yN Cmp5.yB 7 (some .int), .code CodL.yN CodL.yB 2 (some .byte)]
theorem tab_of {a : Array Value} {s : State} (h : ∀ w ∈ words, w.before a s = true) : New1.tab.before a s = true := by
  have h5 : Cmp5.tab.before a s = true := unparts (wk h (.code Cmp5.yN Cmp5.yB 7 (some .int))) (wks h (.initialized Cmp5.yN.cls :: Cmp5.site))
  have hc : CodL.tab.before a s = true := unparts (wk h (.code CodL.yN CodL.yB 2 (some .byte))) (wks h (.initialized CodL.yN.cls :: CodL.site))
  have q5 : ∀ w ∈ Cmp5.tab :: words, w.before a s = true := fun w hw => (List.mem_cons.mp hw).elim (fun e => e ▸ h5) (h w)
  have h3 : Cmp3.tab.before a s = true := unparts (wk q5 (.code Cmp3.yN Cmp3.yB 6 (some (.array .byte)))) (wks q5 (.initialized Cmp3.yN.cls :: Cmp3.site))
  have q3 : ∀ w ∈ Cmp3.tab :: CodL.tab :: words, w.before a s = true := fun w hw => (List.mem_cons.mp hw).elim (fun e => e ▸ h3) fun hw => (List.mem_cons.mp hw).elim (fun e => e ▸ hc) (h w)
  have h4 : New4.tab.before a s = true := unparts (wk q3 (.code New4.yN New4.yB 6 none)) (wks q3 (.initialized New4.yN.cls :: New4.site))
  have q4 : ∀ w ∈ New4.tab :: words, w.before a s = true := fun w hw => (List.mem_cons.mp hw).elim (fun e => e ▸ h4) (h w)
  exact unparts (wk q4 (.code New1.yN New1.yB 2 none)) (wks q4 (.initialized New1.yN.cls :: New1.site))
/-- the words ride from the start Z to the walk's own state -/
theorem moved {Z s : State} {a0 args : Array Value} (hZ : Z.Warmed39 s.vm) (hw : ∀ d ∈ words, d.before a0 Z = true) : ∀ d ∈ words, d.before args s = true := fun d hd => by
  have q := hw d hd
  have t : ∀ d ∈ words, d = .arrayClass .byte ∨ (d.onTables && d.keepsFace) = true := by decide +kernel
  rcases t d hd with rfl | t
  · exact RoadKit.mvA hZ q
  · exact RoadKit.mv hZ q t
/-- WHAT COMES BACK, over the tables of the start Z: h the heap at the call, h' behind it -/
def Q (Z : State) (x : Addr) (A : Cell) (h : Heap) (v : Option Value) (h' : Heap) (L : List Loc) : Prop := v = none ∧ (∀ y ∈ L, y.base = x) ∧ RoadKit.Keep h h' [x] ∧ h'.size = h.size + 1 ∧ RoadKit.Exa Z h' x ST ∧ RoadKit.Fld Z h' x ST "value" "[B" (.ref h.size) ∧ RoadKit.Fld Z h' x ST "coder" "B" (.int 0) ∧
  (∃ V : Cell, RoadKit.Arr Z h' h.size V .byte ∧ V.vm = .none ∧ Z.vm.findClass "[B" = some V.cls ∧ V.slots.size = A.slots.size ∧ ∀ j, j < A.slots.size → V.slots[j]? = some (.int (lo8 (cv A j)))) ∧
  ∀ (O n d : String) (w : Value), RoadKit.Fld Z h x O n d w → RoadKit.slotOf Z O n d ≠ RoadKit.slotOf Z ST "value" "[B" → RoadKit.slotOf Z O n d ≠ RoadKit.slotOf Z ST "coder" "B" → RoadKit.Fld Z h' x O n d w
/-- **new String(chars) AT A CALL, IN THE ROAD'S FORM**: for specialBack behind newO: x the fresh String, b the char[] with the cell A -/
theorem back {p : Program} {l : Launch} {e : Env} {R : Room} {s : State} {args : Array Value} {below : List Frame} {len W : Nat} {Z : State} {a0 : Array Value} {h : Heap} (hZ : Z.Warmed39 s.vm) (hw : ∀ d ∈ words, d.before a0 Z = true) {kI : Nat} (wi : (Jvm.Cond.instantiable ST kI).before a0 Z = true)
    {x b : Addr} {A : Cell} {z : Int32} {v0 c0 : Value} (E : RoadKit.Exa Z h x ST) (V : RoadKit.Fld Z h x ST "value" "[B" v0) (C : RoadKit.Fld Z h x ST "coder" "B" c0) (K : RoadKit.Arr Z h b A .char) (hty : Typed .char A) (S : RoadKit.Sta Z h ST "COMPACT_STRINGS" "Z" (.int z)) (hz : ¬ z = 0)
    (l0 : 0 < A.slots.size) (l2 : A.slots.size ≤ 536870912) (hp : ∀ i, i < A.slots.size → ¬ 255 < cv A i) (hfr : 4 ≤ R.frames) (hlo : W + 65 ≤ R.locals) :
    Back l R p e below s args New1.yN len W (fun P a => a = #[.ref x, .ref b] ∧ P.U.heap = h ∧ P.cells + 1 ≤ R.cells ∧ P.slots + A.slots.size ≤ R.slots)
      (fun P _ v B => ∃ L, Q Z x A h v B.U.heap L ∧ B.locs = P.locs ++ L ∧ B.cells = P.cells + 1 ∧ B.slots = P.slots + A.slots.size) := by
  intro m meth c P g ig mk a X hg hsize hdg hW hn hp'
  obtain ⟨rfl, rfl, r1, r2⟩ := hp'
  have al : Z.vm.Alike P.U.vm := hZ.alike.trans X.warmed.alike
  obtain ⟨D, cfV, kV, iV, fV, hD, gV, stV, knV, obV, asV, slV⟩ := id V
  obtain ⟨D', cfC, kC, iC, fC, hD', gC, stC, -, -, asC, slC⟩ := id C
  cases hD.symm.trans hD'
  obtain ⟨D2, kD, e1, e2, e3, e4, e5⟩ := id E
  cases hD.symm.trans e1
  obtain ⟨c2, k2, i1, i2, i3, -⟩ := Cond.instantiable_spec wi
  cases e2.symm.trans i1
  cases e3.symm.trans i2
  obtain ⟨kU, u1, u2⟩ := al.2.2 _ _ e3
  have hB : Blank ST x D P.U := ⟨hD, ⟨knV, fun q hq => by rw [hq] at obV; cases obV⟩, by rw [al.findClass]; exact e2, kU, u1, by rw [u2]; exact i3, by rw [u2]; exact e5 i3⟩
  have F1 : Found ST "value" "[B" fV P.U := ⟨SBG.found_only al ⟨cfV, kV, iV, gV⟩, stV⟩
  have F2 : Found ST "coder" "B" fC P.U := ⟨SBG.found_only al ⟨cfC, kC, iC, gC⟩, stC⟩
  have hA : Ch b A P.U := ⟨⟨K.1, State.isArrayOf_alike al K.2.1, K.2.2, by omega⟩, hty⟩
  have hS : StaticIs P.U ST "COMPACT_STRINGS" "Z" (.int z) := by
    obtain ⟨cfS, iS, kS, fS, st, cS, t1, t2, t3, t4, t5, t6, t7⟩ := S
    exact StaticIs.there (s := { Z with heap := P.U.heap }) ⟨cfS, iS, kS, fS, st, cS, t1, t2, t3, t4, t5, (fun q => by rw [q] at t6; cases t6), t7⟩ al rfl
  obtain ⟨v, B, X', ⟨⟨hv, E', V', q1, q2, q3, q4, q5, q6, q7, q8, q9, q10, q11⟩, hl, hc, hs⟩, st⟩ := New1.pays x D fV fC b A z (tab_of (moved hZ hw)) hfr hlo m meth c P g ig mk _ X hg hsize hdg hW hn ⟨r1, r2, rfl, hB, F1, F2, hA, hS, hz, l0, l2, hp⟩
  have al' : Z.vm.Alike B.U.vm := hZ.alike.trans X'.warmed.alike
  have hsz : E'.slots.size = D.slots.size := by
    obtain ⟨-, -, -, kB, w1, w2, w3⟩ := q1
    obtain ⟨kB', y1, y2⟩ := al'.2.2 _ _ e3
    rw [q2.2.1] at w1
    cases w1.symm.trans y1
    rw [w3, e5 i3, y2]
  refine ⟨v, B, X', ⟨_, ⟨hv, ?_, ⟨by omega, fun y cy hy hn' => q10 y cy (by simpa using hn') hy, fun y cy hy => ?_⟩, q11, ⟨E', _, q1.1, by rw [q2.2.1]; exact e2, by rw [q2.2.1]; exact e3, by rw [q2.1]; exact obV, fun _ => by rw [hsz]; exact e5 i3⟩,
    ⟨E', cfV, kV, iV, fV, q1.1, gV, stV, by rw [q2.1]; exact knV, by rw [q2.1]; exact obV, by rw [q2.2.1]; exact asV, q3⟩, ⟨E', cfC, kC, iC, fC, q1.1, gC, stC, by rw [q2.1]; exact knV, by rw [q2.1]; exact obV, by rw [q2.2.1]; exact asC, q4⟩,
    ⟨V', ⟨q5.1, State.isArrayOf_alike al'.symm q5.2.1, q5.2.2.1⟩, q6, by rw [← al'.findClass]; exact q7, q8, fun j hj => by have := q9 j hj; rwa [Nat.zero_add] at this⟩, fun O n d w F n1 n2 => ?_⟩, hl, hc, hs⟩, st⟩
  · intro y hy
    simp only [List.mem_cons, List.not_mem_nil, or_false] at hy
    rcases hy with rfl | rfl <;> rfl
  · by_cases q : y = x
    · subst q
      cases hD.symm.trans hy
      exact ⟨E', q1.1, q2.2.1, q2.1, hsz⟩
    · exact ⟨cy, q10 y cy q hy, rfl, rfl, rfl⟩
  · obtain ⟨D3, cf, k, i, f, g1, g2, g3, g4, g5, g6, g7⟩ := F
    cases hD.symm.trans g1
    simp only [RoadKit.slotOf, g2, gV, gC, Option.map_some, Option.getD_some] at n1 n2
    exact ⟨E', cf, k, i, f, q1.1, g2, g3, by rw [q2.1]; exact g4, by rw [q2.1]; exact g5, by rw [q2.2.1]; exact g6, by rw [q2.2.2 f.slot (by simp [n1, n2])]; exact g7⟩
end StrChars.Road
namespace StrChars.Road
open Jvm Sem ClassFile Op Lib Jvm.Stand Jvm.Free Jvm.Free.XT
/-- WHAT COMES BACK, the byte[] as a list of values -/
def QA (Z : State) (x : Addr) (zn : Int32) (cs : List Int32) (h : Heap) (v : Option Value) (h' : Heap) (L : List Loc) : Prop := v = none ∧ (∀ y ∈ L, y.base = x) ∧ RoadKit.Keep h h' [x] ∧ h'.size = h.size + 1 ∧ RoadKit.Exa Z h' x ST ∧ RoadKit.Fld Z h' x ST "value" "[B" (.ref h.size) ∧ RoadKit.Fld Z h' x ST "coder" "B" (.int 0) ∧
  (∃ kb, Z.vm.findClass "[B" = some kb ∧ RoadKit.Arv Z h' h.size kb .byte zn (cs.map fun c => .int (lo8 c)) (.int 0)) ∧
  ∀ (O n d : String) (w : Value), RoadKit.Fld Z h x O n d w → RoadKit.slotOf Z O n d ≠ RoadKit.slotOf Z ST "value" "[B" → RoadKit.slotOf Z O n d ≠ RoadKit.slotOf Z ST "coder" "B" → RoadKit.Fld Z h' x O n d w
/-- **new String(chars) AT A CALL, THE ARRAYS AS LISTS**: the char[] at b holds cs, not empty, no char above 255 -/
theorem backArv {p : Program} {l : Launch} {e : Env} {R : Room} {s : State} {args : Array Value} {below : List Frame} {len W : Nat} {Z : State} {a0 : Array Value} {h : Heap} (hZ : Z.Warmed39 s.vm) (hw : ∀ d ∈ words, d.before a0 Z = true) {kI : Nat} (wi : (Jvm.Cond.instantiable ST kI).before a0 Z = true)
    {x b : Addr} {k : ClassId} {zn z : Int32} {cs : List Int32} {dv v0 c0 : Value} (E : RoadKit.Exa Z h x ST) (V : RoadKit.Fld Z h x ST "value" "[B" v0) (C : RoadKit.Fld Z h x ST "coder" "B" c0) (K : RoadKit.Arv Z h b k .char zn (cs.map Value.int) dv) (S : RoadKit.Sta Z h ST "COMPACT_STRINGS" "Z" (.int z)) (hz : ¬ z = 0)
    (hlen : zn.toNatClampNeg = cs.length) (h0 : 0 < cs.length) (hbig : cs.length ≤ 536870912) (hall : ∀ c ∈ cs, ¬ 255 < c) (hfr : 4 ≤ R.frames) (hlo : W + 65 ≤ R.locals) :
    Back l R p e below s args New1.yN len W (fun P a => a = #[.ref x, .ref b] ∧ P.U.heap = h ∧ P.cells + 1 ≤ R.cells ∧ P.slots + cs.length ≤ R.slots)
      (fun P _ v B => ∃ L, QA Z x zn cs h v B.U.heap L ∧ B.locs = P.locs ++ L ∧ B.cells = P.cells + 1 ∧ B.slots = P.slots + cs.length) := by
  obtain ⟨A, K1, K2, K3, K4, K5, K6⟩ := K
  have e : A.slots.size = cs.length := K3.trans hlen
  have hat : ∀ (i : Nat) (hi : i < cs.length), A.slots[i]? = some (.int cs[i]) := fun i hi => by rw [K5 i (by omega)]; simp [List.getD_eq_getElem?_getD, hi]
  have hcv : ∀ (i : Nat) (hi : i < cs.length), cv A i = cs[i] := fun i hi => by unfold cv; rw [hat i hi]
  have hty : Typed .char A := fun i v hv => by
    have hi : i < A.slots.size := (Array.getElem?_eq_some_iff.mp hv).1
    have q := K5 i hi
    rw [hv] at q
    rw [Option.some.inj q]
    exact K6 i hi
  refine Back.mono (back hZ hw wi E V C K1 hty S hz (by omega) (by omega) (fun i hi => by rw [hcv i (by omega)]; exact hall _ (List.getElem_mem _)) hfr hlo) (fun P a hp => ⟨hp.1, hp.2.1, hp.2.2.1, by rw [e]; exact hp.2.2.2⟩) (fun P a v B hp hq => ?_)
  obtain ⟨L, ⟨q1, q2, q3, q4, q5, q6, q7, ⟨V', v1, v2, v3, v4, v5⟩, q9⟩, hl, hc, hs⟩ := hq
  refine ⟨L, ⟨q1, q2, q3, q4, q5, q6, q7, ⟨V'.cls, v3, V', v1, rfl, by rw [v4, e, hlen], K4, fun i hi => ?_, fun i hi => ?_⟩, q9⟩, hl, hc, by rw [hs, e]⟩
  · have hi' : i < cs.length := by omega
    rw [v5 i (by omega), hcv i hi']; simp [List.getD_eq_getElem?_getD, hi']
  · have hi' : i < cs.length := by omega
    simp only [List.getD_eq_getElem?_getD, List.getElem?_map, List.getElem?_eq_getElem hi', Option.map_some, Option.getD_some]
    exact fits_lo8 _
end StrChars.Road
namespace StrChars.Road
open Jvm Sem ClassFile Op Lib Jvm.Stand Jvm.Free Jvm.Free.XT
/-- WHAT COMES BACK, in the writer's own shape -/
def QV (Z : State) (x : Addr) (N : Int32) (bs : List Int32) (h : Heap) (n0 : Nat) (v : Option Value) (h' : Heap) (L : List Loc) : Prop := v = none ∧ RoadKit.Fr n0 L ∧ RoadKit.Keep h h' [x] ∧ RoadKit.Exa Z h' x ST ∧ RoadKit.Fld Z h' x ST "coder" "B" (.int 0) ∧
  ∃ (t : Addr) (kb : ClassId), n0 ≤ t ∧ h.size ≤ t ∧ ¬ t = x ∧ RoadKit.Fld Z h' x ST "value" "[B" (.ref t) ∧ RoadKit.Arv Z h' t kb .byte N (bs.map Value.int) (.int 0)
/-- **new String(chars) AT A CALL, FOR THE WRITER**: a char[] of n known ints, each 0 to 255 -/
theorem backV {p : Program} {l : Launch} {e : Env} {R : Room} {s : State} {args : Array Value} {below : List Frame} {len W : Nat} {Z : State} {a0 : Array Value} {h : Heap} (hZ : Z.Warmed39 s.vm) (hw : ∀ d ∈ words, d.before a0 Z = true) {kI : Nat} (wi : (Jvm.Cond.instantiable ST kI).before a0 Z = true)
    {x b : Addr} {kC : ClassId} {cs bs : List Int32} {d v0 c0 : Value} {z N : Int32} {n n0 : Nat} (hx0 : n0 ≤ x) (hh0 : n0 ≤ h.size) (E : RoadKit.Exa Z h x ST) (V : RoadKit.Fld Z h x ST "value" "[B" v0) (C : RoadKit.Fld Z h x ST "coder" "B" c0) (K : RoadKit.Arv Z h b kC .char N (cs.map Value.int) d) (S : RoadKit.Sta Z h ST "COMPACT_STRINGS" "Z" (.int z)) (hz : ¬ z = 0)
    (hn : cs.length = n) (hN : N = Int32.ofNat n) (l0 : 0 < n) (l2 : n ≤ 4000) (hp : ∀ c ∈ cs, ¬ c < 0 ∧ ¬ (255 : Int32) < c) (hb : bs = cs.map (fun c => c.toInt8.toInt32)) (hfr : 4 ≤ R.frames) (hlo : W + 65 ≤ R.locals) :
    Back l R p e below s args (⟨"java/lang/String", "<init>", "([C)V"⟩ : MethodName) len W (fun P a => a = #[.ref x, .ref b] ∧ P.U.heap = h ∧ P.cells + 1 ≤ R.cells ∧ P.slots + n ≤ R.slots)
      (fun P _ v B => ∃ L, QV Z x N bs h n0 v B.U.heap L ∧ B.locs = P.locs ++ L ∧ B.cells = P.cells + 1 ∧ B.slots = P.slots + n) := by
  subst hn hN hb
  refine Back.mono (backArv hZ hw wi E V C K S hz (n32 (by omega)) l0 (by omega) (fun c hc => (hp c hc).2) hfr hlo) (fun P a hp => hp) (fun P a v B hp hq => ?_)
  obtain ⟨L, ⟨q1, q2, q3, q4, q5, q6, q7, ⟨kb, v1, v2⟩, q9⟩, hl, hc, hs⟩ := hq
  exact ⟨L, ⟨q1, fun y hy => by rw [q2 y hy]; exact hx0, q3, q5, q7, h.size, kb, hh0, Nat.le_refl _, Nat.ne_of_gt E.lt, q6, by rw [List.map_map]; exact v2⟩, hl, hc, hs⟩
end StrChars.Road
namespace StrChars
open Jvm Sem ClassFile Op Lib Jvm.Stand Jvm.Free.XT Jvm.Free.ALB Jvm.Free.JM Jvm.Free
open Jvm.Lib.Cold (StaticIs)
def hi8 (x : Int32) : Int32 := lo8 (x >>> ((8 : Int32) &&& 31))
/-- what StringUTF16.getChar makes of two bytes -/
def pairCh (u v : Int32) : Int32 := (((u &&& 255) <<< ((0 : Int32) &&& 31)) ||| ((v &&& 255) <<< ((8 : Int32) &&& 31))).toUInt32.toUInt16.toUInt32.toInt32
theorem lo8_and (x : Int32) : (lo8 x &&& 255).toBitVec.toNat = x.toBitVec.toNat % 256 := by
  have h : (lo8 x).toBitVec = (x.toBitVec.signExtend 8).signExtend 32 := by rw [lo8, Int8.toBitVec_toInt32, Int32.toBitVec_toInt8]
  rw [Int32.toBitVec_and, BitVec.toNat_and, h]
  have e : ((x.toBitVec.signExtend 8).signExtend 32).toNat % 256 = x.toBitVec.toNat % 256 := by
    rw [BitVec.toNat_signExtend]
    have hlt := x.toBitVec.isLt
    simp only [BitVec.toNat_setWidth, BitVec.toNat_signExtend]
    split <;> split <;> omega
  rw [← e]
  exact Nat.and_two_pow_sub_one_eq_mod _ 8
theorem pair_says {c : Int32} (h0 : ¬ c < 0) (h1 : ¬ 65535 < c) : pairCh (lo8 c) (hi8 c) = c := by
  rw [Int32.lt_iff_toInt_lt] at h0 h1
  have e0 : (0 : Int32).toInt = 0 := rfl
  have e1 : (65535 : Int32).toInt = 65535 := rfl
  have hc : c.toInt = c.toBitVec.toNat := by
    have := c.toBitVec.isLt
    have e : c.toInt = c.toBitVec.toInt := rfl
    rw [e] at h0 h1
    rw [e]
    rw [BitVec.toInt_eq_toNat_cond] at h0 h1 ⊢
    split at h0 <;> split <;> omega
  have hn : c.toBitVec.toNat < 65536 := by omega
  have a1 := lo8_and c
  have a2 : (hi8 c &&& 255).toBitVec.toNat = c.toBitVec.toNat / 256 := by
    rw [hi8, lo8_and]
    have e : ((8 : Int32) &&& 31) = 8 := by decide
    rw [e, Int32.toBitVec_shiftRight]
    have e2 : ((8 : Int32).toBitVec.smod 32) = 8#32 := by decide
    rw [e2, BitVec.sshiftRight_eq', BitVec.toNat_sshiftRight_of_msb_false (by rw [BitVec.msb_eq_false_iff_two_mul_lt]; omega)]
    show c.toBitVec.toNat >>> 8 % 256 = _
    rw [Nat.shiftRight_eq_div_pow]
    omega
  unfold pairCh
  apply Int32.toBitVec_inj.mp
  apply BitVec.eq_of_toNat_eq
  have f0 : ((0 : Int32) &&& 31) = 0 := by decide
  have f8 : ((8 : Int32) &&& 31) = 8 := by decide
  rw [f0, f8]
  have g : (((lo8 c &&& 255) <<< (0 : Int32)) ||| ((hi8 c &&& 255) <<< (8 : Int32))).toBitVec.toNat = c.toBitVec.toNat := by
    rw [Int32.toBitVec_or, Int32.toBitVec_shiftLeft, Int32.toBitVec_shiftLeft]
    have s0 : ((0 : Int32).toBitVec.smod 32) = 0#32 := by decide
    have s8 : ((8 : Int32).toBitVec.smod 32) = 8#32 := by decide
    rw [s0, s8, BitVec.toNat_or]
    simp only [BitVec.shiftLeft_eq', BitVec.toNat_shiftLeft, a1, a2]
    show (c.toBitVec.toNat % 256) <<< 0 % 2 ^ 32 ||| (c.toBitVec.toNat / 256) <<< 8 % 2 ^ 32 = _
    rw [Nat.shiftLeft_zero, Nat.mod_eq_of_lt (show c.toBitVec.toNat % 256 < 2 ^ 32 by omega), Nat.mod_eq_of_lt (show (c.toBitVec.toNat / 256) <<< 8 < 2 ^ 32 by rw [Nat.shiftLeft_eq]; omega), Nat.or_comm, ← Nat.shiftLeft_add_eq_or_of_lt (by omega), Nat.shiftLeft_eq]
    omega
  show BitVec.toNat (((((lo8 c &&& 255) <<< (0 : Int32)) ||| ((hi8 c &&& 255) <<< (8 : Int32))).toBitVec.setWidth 16).setWidth 32) = _
  rw [BitVec.toNat_setWidth, BitVec.toNat_setWidth, g]
  omega
end StrChars
namespace StrChars
open Jvm Sem ClassFile Op Lib Jvm.Stand Jvm.Free.XT Jvm.Free.ALB Jvm.Free.JM Jvm.Free
open Jvm.Lib.Cold (StaticIs)
/-- charAt's cast of a byte read back -/
def chr8 (u : Int32) : Int32 := (u &&& 255).toUInt32.toUInt16.toUInt32.toInt32
theorem chr8_lo8 {c : Int32} (h0 : ¬ c < 0) (h1 : ¬ 255 < c) : chr8 (lo8 c) = c := by
  have t : ∀ k : Fin 256, (Int32.ofNat k.val).toUInt32.toUInt16.toUInt32.toInt32 = Int32.ofNat k.val := by decide +kernel
  unfold chr8
  rw [lo8_mask h0 h1]
  rw [Int32.lt_iff_toInt_lt] at h0 h1
  have e0 : (0 : Int32).toInt = 0 := rfl
  have e1 : (255 : Int32).toInt = 255 := rfl
  obtain ⟨k, hk⟩ : ∃ k : Nat, c.toInt = k := ⟨c.toInt.toNat, by omega⟩
  have hx : c = Int32.ofNat k := Int32.toInt_inj.mp (by rw [hk, Int32.toInt_ofNat_small (by omega)])
  rw [hx]
  exact t ⟨k, by omega⟩
theorem narrow_ch {c : Int32} (h0 : ¬ c < 0) (h1 : ¬ 65535 < c) : narrow .char (.int c) = .int c := by
  have q : narrow .char (.int (pairCh (lo8 c) (hi8 c))) = .int (pairCh (lo8 c) (hi8 c)) := narrow_c _
  rwa [pair_says h0 h1] at q
/-- the array's cell V codes the n chars f 0 .. f (n - 1) by the coder cd, as the JDK does: coder 1 just where some char is above 255 -/
def Cod (cd : Int32) (n : Nat) (f : Nat → Int32) (V : Cell) : Prop := (cd = 0 ∧ V.slots.size = n ∧ ∀ j, j < n → V.slots[j]? = some (.int (lo8 (f j))) ∧ ¬ 255 < f j) ∨ (cd = 1 ∧ V.slots.size = 2 * n ∧ (∀ j, j < n → V.slots[2 * j]? = some (.int (lo8 (f j))) ∧ V.slots[2 * j + 1]? = some (.int (hi8 (f j)))) ∧ ∃ j, j < n ∧ 255 < f j)
theorem Cod.cd {cd : Int32} {n : Nat} {f : Nat → Int32} {V : Cell} (h : Cod cd n f V) : cd = 0 ∨ cd = 1 := h.imp (fun q => q.1) fun q => q.1
/-- **x is a String of the n chars f 0 .. f (n - 1)**, Latin-1 or UTF-16; its array at t has the cell V -/
def Txt (x t : Addr) (V : Cell) (cd : Int32) (n : Nat) (f : Nat → Int32) (U : State) : Prop := Exact "java/lang/String" x U ∧ Has x "java/lang/String" "value" "[B" (.ref t) U ∧ Has x "java/lang/String" "coder" "B" (.int cd) U ∧ XT.Arr .byte t V U ∧ Cod cd n f V ∧ ∀ j, j < n → ¬ f j < 0 ∧ ¬ 65535 < f j
theorem Txt.mv {x t : Addr} {V : Cell} {cd : Int32} {n : Nat} {f : Nat → Int32} {U U' : State} (h : Txt x t V cd n f U) (hal : U.vm.Alike U'.vm) (hh : U'.heap = U.heap) : Txt x t V cd n f U' := ⟨h.1.mv hal hh, h.2.1.mv hal hh, h.2.2.1.mv hal hh, h.2.2.2.1.mv hal hh, h.2.2.2.2⟩
namespace IsL
def yN : MethodName := ⟨"java/lang/String", "isLatin1", "()Z"⟩
abbrev yB : ByteArray := jdk_42_method_154_code
theorem d0 : decode yB 0 = .ok (.getstatic 38, 3) := by decide +kernel
theorem d3 : decode yB 3 = .ok (.ifCond (.eq) 14, 3) := by decide +kernel
theorem d6 : decode yB 6 = .ok (.aload_n 0, 1) := by decide +kernel
theorem d7 : decode yB 7 = .ok (.getfield 15, 3) := by decide +kernel
theorem d10 : decode yB 10 = .ok (.ifCond (.ne) 7, 3) := by decide +kernel
theorem d13 : decode yB 13 = .ok (.iconst 1, 1) := by decide +kernel
theorem d14 : decode yB 14 = .ok (.goto 4, 3) := by decide +kernel
theorem d17 : decode yB 17 = .ok (.iconst 0, 1) := by decide +kernel
theorem d18 : decode yB 18 = .ok (.ireturn, 1) := by decide +kernel
def site : List Cond := [.fieldLink "java/lang/String" 38 "java/lang/String" "COMPACT_STRINGS" "Z", .fieldLink "java/lang/String" 15 "java/lang/String" "coder" "B"]
def tab : Cond := tabOf yN yB 1 (some .boolean) site
def P (x : Addr) (cd z : Int32) (args : Array Value) (s : State) : Prop := args = #[.ref x] ∧ Has x "java/lang/String" "coder" "B" (.int cd) s ∧ (cd = 0 ∨ cd = 1) ∧ StaticIs s "java/lang/String" "COMPACT_STRINGS" "Z" (.int z) ∧ ¬ z = 0
def E (cd : Int32) (r : Option Value) (s u : State) : Prop := XT.PureE (some (.int (1 - cd))) r s u
theorem law (l : Launch) (x : Addr) (cd z : Int32) : Law l yN 1 0 0 0 yB 1 (some .boolean) site (P x cd z) (E cd) [] 0 0 := by
  refine Law.of_walk (plainFor_of_name (by decide +kernel)) (by decide +kernel) (by decide +kernel) (by decide) (fun _ _ h => by rw [h.1]; rfl) (fun _ U U' hal hh h => ⟨h.1, h.2.1.mv hal hh, h.2.2.1, h.2.2.2.1.there hal hh, h.2.2.2.2⟩) (fun r U U' V V' h1 hal h2 h => XT.PureE.mv r U U' V V' h1 hal h2 h) ?_
  intro p e s m args below meth c s₁ X0 hexec hbytes hml hret hlk hnm hown hh0 W hP
  obtain ⟨rfl, hx, hc, s1, hz⟩ := hP
  have c1 : Steps p.tables e below (s₁.setTop (entryFrame m #[.ref x] 1)) (s₁.setTop (mkF m 0 #[.val (.ref x)] [])) := entry rfl
  obtain ⟨T2, X2, q2, st2⟩ := X0.sget hexec hown (wk W (.fieldLink "java/lang/String" 38 "java/lang/String" "COMPACT_STRINGS" "Z")) s1 (fun _ _ h => by rw [hh0]; exact h) (g := (mkF m 0 #[.val (.ref x)] [])) rfl (hb hbytes d0)
  have hh2 := q2.trans hh0
  have c3 : Steps p.tables e below (s₁.setTop (entryFrame m #[.ref x] 1)) (T2.setTop (mkF m 7 #[.val (.ref x)] [.ref x])) := (c1.trans (st2 _ (Steps.refl _))).trans (by
    refine XS.ifNo X2.here hexec rfl (hb hbytes d3) rfl (i0_eq_f hz) ?_
    refine XS.aloadN X2.here hexec rfl (hb hbytes d6) rfl rfl ?_
    exact Steps.refl _)
  obtain ⟨T4, X4, q4, st4⟩ := X2.hget hexec hown (wk W (.fieldLink "java/lang/String" 15 "java/lang/String" "coder" "B")) (hx.mv X2.warmed.alike hh2) (g := (mkF m 7 #[.val (.ref x)] [.ref x])) rfl (rest := []) rfl (hb hbytes d7)
  have c5 : Steps p.tables e below (s₁.setTop (entryFrame m #[.ref x] 1)) (T4.setTop (mkF m 10 #[.val (.ref x)] [.int cd])) := c3.trans (st4 _ (Steps.refl _))
  have c6 : Steps p.tables e below (s₁.setTop (entryFrame m #[.ref x] 1)) (T4.setTop (mkF m 18 #[.val (.ref x)] [.int (1 - cd)])) := by
    rcases hc with rfl | rfl
    · exact c5.trans (by
        refine XS.ifNo X4.here hexec rfl (hb hbytes d10) rfl (i0_ne_f rfl) ?_
        refine iconstV X4.here hexec rfl 1 (hb hbytes d13) (by decide) ?_
        refine XS.goto X4.here hexec rfl (pc0 := 14) rfl (hb hbytes d14) (by decide) rfl ?_
        exact Steps.refl _)
    · exact c5.trans (by
        refine XS.ifYes X4.here hexec rfl (pc0 := 10) rfl (hb hbytes d10) rfl (i0_ne_t (by decide)) (by decide) rfl ?_
        refine iconstV X4.here hexec rfl 0 (hb hbytes d17) (by decide) ?_
        exact Steps.refl _)
  exact ⟨T4, some (.int (1 - cd)), _, _, _, X4, rfl, rfl, rfl, (fun h => by cases h), ⟨rfl, q4.trans hh2⟩, fun fs hl => c6.trans (X4.ireturnOut hexec hret (by rcases hc with rfl | rfl <;> rfl) (Or.inr (Or.inl rfl)) (hb hbytes d18) hl)⟩
end IsL
namespace LChA
def yN : MethodName := ⟨"java/lang/StringLatin1", "charAt", "([BI)C"⟩
abbrev yB : ByteArray := jdk_43_method_2_code
theorem d0 : decode yB 0 = .ok (.iload_n 1, 1) := by decide +kernel
theorem d1 : decode yB 1 = .ok (.aload_n 0, 1) := by decide +kernel
theorem d2 : decode yB 2 = .ok (.arraylength, 1) := by decide +kernel
theorem d3 : decode yB 3 = .ok (.invokestatic 9, 3) := by decide +kernel
theorem d6 : decode yB 6 = .ok (.aload_n 0, 1) := by decide +kernel
theorem d7 : decode yB 7 = .ok (.iload_n 1, 1) := by decide +kernel
theorem d8 : decode yB 8 = .ok (.baload, 1) := by decide +kernel
theorem d9 : decode yB 9 = .ok (.sipush 255, 3) := by decide +kernel
theorem d12 : decode yB 12 = .ok (.iand, 1) := by decide +kernel
theorem d13 : decode yB 13 = .ok (.i2c, 1) := by decide +kernel
theorem d14 : decode yB 14 = .ok (.ireturn, 1) := by decide +kernel
def site : List Cond := [JO.Str_checkIndex.tab] ++ staticW "java/lang/StringLatin1" 9 JO.Str_checkIndex.yN
def tab : Cond := tabOf yN yB 2 (some .char) site
def P (t : Addr) (V : Cell) (i : Nat) (u : Int32) (fm : Value) (args : Array Value) (s : State) : Prop := args = #[.ref t, .int (Int32.ofNat i)] ∧ XT.Arr .byte t V s ∧ V.slots[i]? = some (.int u) ∧ (StaticIs s "jdk/internal/util/Preconditions" "SIOOBE_FORMATTER" "Ljava/util/function/BiFunction;" fm ∧ fm.isRef = true)
def E (u : Int32) (r : Option Value) (s w : State) : Prop := XT.PureE (some (.int (chr8 u))) r s w
theorem law (l : Launch) (t : Addr) (V : Cell) (i : Nat) (u : Int32) (fm : Value) : Law l yN 2 2 2 27 yB 2 (some .char) site (P t V i u fm) (E u) [] 0 0 := by
  refine Law.of_walk (plainFor_of_name (by decide +kernel)) (by decide +kernel) (by decide +kernel) (by decide) (fun _ _ h => by rw [h.1]; rfl) (fun _ U U' hal hh h => ⟨h.1, h.2.1.mv hal hh, h.2.2.1, h.2.2.2.1.there hal hh, h.2.2.2.2⟩) (fun r U U' V V' h1 hal h2 h => XT.PureE.mv r U U' V V' h1 hal h2 h) ?_
  intro p e s m args below meth c s₁ X0 hexec hbytes hml hret hlk hnm hown hh0 W hP
  obtain ⟨rfl, hV, hu, s1, rf⟩ := hP
  have v31 := hV.2.2.2
  have hi : i < V.slots.size := (Array.getElem?_eq_some_iff.mp hu).1
  have c1 : Steps p.tables e below (s₁.setTop (entryFrame m #[.ref t, .int (Int32.ofNat i)] 2)) (s₁.setTop (mkF m 0 #[.val (.ref t), .val (.int (Int32.ofNat i))] [])) := entry rfl
  have c2 : Steps p.tables e below (s₁.setTop (entryFrame m #[.ref t, .int (Int32.ofNat i)] 2)) (s₁.setTop (mkF m 3 #[.val (.ref t), .val (.int (Int32.ofNat i))] [.int (Int32.ofNat V.slots.size), .int (Int32.ofNat i)])) := c1.trans (by
    refine XS.iloadN X0.here hexec rfl (hb hbytes d0) rfl ?_
    refine XS.aloadN X0.here hexec rfl (hb hbytes d1) rfl rfl ?_
    refine X0.alen hexec (hV.mv X0.warmed.alike hh0) rfl rfl (hb hbytes d2) ?_
    exact Steps.refl _)
  obtain ⟨v3, T3, X3, E3, g3⟩ := X0.callS hexec (JO.Str_checkIndex.law l (Int32.ofNat i) (Int32.ofNat V.slots.size) fm) hown (wks W (staticW "java/lang/StringLatin1" 9 JO.Str_checkIndex.yN)) (wk W JO.Str_checkIndex.tab) (W := 0) (Nat.le_of_ble_eq_true rfl) (Nat.le_of_ble_eq_true rfl) (Nat.le_refl _) (Nat.le_refl _) (g := (mkF m 3 #[.val (.ref t), .val (.int (Int32.ofNat i))] [.int (Int32.ofNat V.slots.size), .int (Int32.ofNat i)])) rfl (by rw [hml]; rfl) c2 (argsL := [.int (Int32.ofNat i), .int (Int32.ofNat V.slots.size)]) (rest := []) rfl rfl (by show 2 * 0 + 0 ≤ _; decide) (hb hbytes d3) (⟨rfl, rf, s1.there X0.warmed.alike hh0, Int32.ofNat_not_neg (by omega), lt32 v31 hi⟩)
  obtain ⟨rfl, q3⟩ := E3
  have hh3 := q3.trans hh0
  have c4 : Steps p.tables e below (s₁.setTop (entryFrame m #[.ref t, .int (Int32.ofNat i)] 2)) (T3.setTop (mkF m 14 #[.val (.ref t), .val (.int (Int32.ofNat i))] [.int (chr8 u)])) := Steps.trans g3 (by
    refine XS.aloadN X3.here hexec rfl (hb hbytes d6) rfl rfl ?_
    refine XS.iloadN X3.here hexec rfl (hb hbytes d7) rfl ?_
    refine X3.aget hexec (hV.mv X3.warmed.alike hh3) rfl hu rfl rfl (hb hbytes d8) ?_
    refine sipushV X3.here hexec rfl 255 (hb hbytes d9) (by decide) ?_
    refine XS.iand X3.here hexec rfl (hb hbytes d12) rfl ?_
    refine i2c X3.here hexec rfl (hb hbytes d13) rfl ?_
    exact Steps.refl _)
  exact ⟨T3, some (.int (chr8 u)), _, _, _, X3, rfl, rfl, rfl, (fun h => by cases h), ⟨rfl, hh3⟩, fun fs hl => c4.trans (X3.ireturnOut hexec hret (narrow_c _) (Or.inr (Or.inr (Or.inr (Or.inl rfl)))) (hb hbytes d14) hl)⟩
end LChA
end StrChars
namespace StrChars.Road
open Jvm Sem ClassFile Op Lib Jvm.Stand Jvm.Free Jvm.Free.XT
open Jvm.Lib.Cold (StaticIs)
theorem consq {a : Array Value} {s : State} {c : Jvm.Cond} {L : List Jvm.Cond} (h0 : c.before a s = true) (h : ∀ w ∈ L, w.before a s = true) : ∀ w ∈ c :: L, w.before a s = true := fun w hw => (List.mem_cons.mp hw).elim (fun e => e ▸ h0) (h w)
/-- the bytes of the chars cs, low before high -/
def wideBytes : List Int32 → List Value
  | [] => []
  | c :: cs => .int (lo8 c) :: .int (hi8 c) :: wideBytes cs
theorem wide_lo (d : Value) : ∀ (cs : List Int32) (j : Nat), j < cs.length → (wideBytes cs).getD (2 * j) d = .int (lo8 (cs.getD j 0))
  | [], j, h => absurd h (Nat.not_lt_zero j)
  | c :: cs, 0, _ => rfl
  | c :: cs, j + 1, h => by
    have q := wide_lo d cs j (by simpa using h)
    rw [show 2 * (j + 1) = 2 * j + 1 + 1 from by omega]
    simpa [wideBytes] using q
theorem wide_hi (d : Value) : ∀ (cs : List Int32) (j : Nat), j < cs.length → (wideBytes cs).getD (2 * j + 1) d = .int (hi8 (cs.getD j 0))
  | [], j, h => absurd h (Nat.not_lt_zero j)
  | c :: cs, 0, _ => rfl
  | c :: cs, j + 1, h => by
    have q := wide_hi d cs j (by simpa using h)
    rw [show 2 * (j + 1) + 1 = 2 * j + 1 + 1 + 1 from by omega]
    simpa [wideBytes] using q
theorem low_at (d : Value) (cs : List Int32) (j : Nat) (h : j < cs.length) : (cs.map fun c => Value.int (lo8 c)).getD j d = .int (lo8 (cs.getD j 0)) := by
  simp [List.getD_eq_getElem?_getD, h]
/-- an array of N2 bytes vs codes the chars cs by the coder cd -/
def CodA (cs : List Int32) (cd N2 : Int32) (vs : List Value) : Prop := (cd = 0 ∧ N2 = Int32.ofNat cs.length ∧ vs = (cs.map fun c => Value.int (lo8 c)) ∧ ∀ c ∈ cs, ¬ 255 < c) ∨ (cd = 1 ∧ N2 = Int32.ofNat (2 * cs.length) ∧ vs = wideBytes cs ∧ ∃ c ∈ cs, 255 < c)
theorem CodA.cod {cs : List Int32} {cd N2 : Int32} {vs : List Value} {V : Cell} (h : CodA cs cd N2 vs) (hn : 2 * cs.length < 2 ^ 31) (hs : V.slots.size = N2.toNatClampNeg) (hv : RoadKit.Has V vs (.int 0)) : Cod cd cs.length (fun j => cs.getD j 0) V := by
  rcases h with ⟨rfl, rfl, rfl, h⟩ | ⟨rfl, rfl, rfl, c, hc, hw⟩
  · rw [n32 (by omega)] at hs
    exact Or.inl ⟨rfl, hs, fun j hj => ⟨by rw [hv j (by omega), low_at _ _ _ hj], by
      have e : cs.getD j 0 = cs[j] := by simp [List.getD_eq_getElem?_getD, hj]
      show ¬ 255 < cs.getD j 0
      rw [e]; exact h _ (List.getElem_mem _)⟩⟩
  · rw [n32 (by omega)] at hs
    obtain ⟨j, hj, rfl⟩ := List.getElem_of_mem hc
    exact Or.inr ⟨rfl, hs, fun j hj => ⟨by rw [hv _ (by omega), wide_lo _ _ _ hj], by rw [hv _ (by omega), wide_hi _ _ _ hj]⟩, j, hj, by
      have e : cs.getD j 0 = cs[j] := by simp [List.getD_eq_getElem?_getD, hj]
      show 255 < cs.getD j 0
      rw [e]; exact hw⟩
/-- an object of exactly java/lang/String, its two fields found: as the laws ask it -/
theorem strObj {Z U : State} {a0 : Array Value} {kI : Nat} (wi : (Jvm.Cond.instantiable ST kI).before a0 Z = true) (al : Z.vm.Alike U.vm) {x : Addr} {v0 c0 : Value} (E : RoadKit.Exa Z U.heap x ST) (V : RoadKit.Fld Z U.heap x ST "value" "[B" v0) (C : RoadKit.Fld Z U.heap x ST "coder" "B" c0) :
    ∃ (D : Cell) (fV fC : Field), Blank ST x D U ∧ Found ST "value" "[B" fV U ∧ Found ST "coder" "B" fC U ∧ D.slots[fV.slot]? = some v0 ∧ D.slots[fC.slot]? = some c0 ∧ RoadKit.slotOf Z ST "value" "[B" = fV.slot ∧ RoadKit.slotOf Z ST "coder" "B" = fC.slot := by
  obtain ⟨D, cfV, kV, iV, fV, hD, gV, stV, knV, obV, asV, slV⟩ := V
  obtain ⟨D', cfC, kC, iC, fC, hD', gC, stC, -, -, asC, slC⟩ := C
  cases hD.symm.trans hD'
  obtain ⟨D2, kD, e1, e2, e3, e4, e5⟩ := E
  cases hD.symm.trans e1
  obtain ⟨c2, k2, i1, i2, i3, -⟩ := Cond.instantiable_spec wi
  cases e2.symm.trans i1
  cases e3.symm.trans i2
  obtain ⟨kU, u1, u2⟩ := al.2.2 _ _ e3
  exact ⟨D, fV, fC, ⟨hD, ⟨knV, fun q hq => by rw [hq] at obV; cases obV⟩, by rw [al.findClass]; exact e2, kU, u1, by rw [u2]; exact i3, by rw [u2]; exact e5 i3⟩, ⟨SBG.found_only al ⟨cfV, kV, iV, gV⟩, stV⟩, ⟨SBG.found_only al ⟨cfC, kC, iC, gC⟩, stC⟩, slV, slC, by simp [RoadKit.slotOf, gV], by simp [RoadKit.slotOf, gC]⟩
theorem sta_is {Z U : State} (al : Z.vm.Alike U.vm) {C n d : String} {v : Value} (S : RoadKit.Sta Z U.heap C n d v) : StaticIs U C n d v := by
  obtain ⟨cfS, iS, kS, fS, st, cS, t1, t2, t3, t4, t5, t6, t7⟩ := S
  exact StaticIs.there (s := { Z with heap := U.heap }) ⟨cfS, iS, kS, fS, st, cS, t1, t2, t3, t4, t5, (fun q => by rw [q] at t6; cases t6), t7⟩ al rfl
end StrChars.Road
namespace StrChars
open Jvm Sem ClassFile Op Lib Jvm.Stand Jvm.Free.XT Jvm.Free.ALB Jvm.Free.JM Jvm.Free
open Jvm.Lib.Cold (StaticIs)
/-- what place i of a byte[]'s cell holds -/
def yv (A : Cell) (i : Nat) : Int32 := match A.slots[i]? with | some (.int x) => x | _ => 0
theorem yv_get {a : Addr} {A : Cell} {U : State} (h : XT.Arr .byte a A U) (ht : Typed .byte A) {i : Nat} (hi : i < A.slots.size) : A.slots[i]? = some (.int (yv A i)) := by
  have e := Array.getElem?_eq_getElem hi
  have f := ht i _ e
  unfold yv; rw [e]
  generalize A.slots[i] = v at f
  cases v <;> simp [fits] at f ⊢
/-- the two arrays are equal, place for place -/
def EqC (A B : Cell) : Prop := A.slots.size = B.slots.size ∧ ∀ i, i < A.slots.size → yv A i = yv B i
/-- a boolean that says whether p -/
def Says01 (q : Prop) (r : Option Value) (s u : State) : Prop := ∃ v : Int32, r = some (.int v) ∧ u.heap = s.heap ∧ ((v = 1 ∧ q) ∨ (v = 0 ∧ ¬ q))
theorem Says01.mv {q : Prop} : ∀ r (U U' V V' : State), U'.heap = U.heap → V.vm.Alike V'.vm → V'.heap = V.heap → Says01 q r U V → Says01 q r U' V' :=
  fun r U U' V V' h1 _ h2 ⟨v, a, b, c⟩ => ⟨v, a, by rw [h1, h2]; exact b, c⟩
namespace LEq
def yN : MethodName := ⟨"java/lang/StringLatin1", "equals", "([B[B)Z"⟩
abbrev yB : ByteArray := jdk_43_method_13_code
theorem d0 : decode yB 0 = .ok (.aload_n 0, 1) := by decide +kernel
theorem d1 : decode yB 1 = .ok (.arraylength, 1) := by decide +kernel
theorem d2 : decode yB 2 = .ok (.aload_n 1, 1) := by decide +kernel
theorem d3 : decode yB 3 = .ok (.arraylength, 1) := by decide +kernel
theorem d4 : decode yB 4 = .ok (.if_icmp (.ne) 30, 3) := by decide +kernel
theorem d7 : decode yB 7 = .ok (.iconst 0, 1) := by decide +kernel
theorem d8 : decode yB 8 = .ok (.istore_n 2, 1) := by decide +kernel
theorem d9 : decode yB 9 = .ok (.iload_n 2, 1) := by decide +kernel
theorem d10 : decode yB 10 = .ok (.aload_n 0, 1) := by decide +kernel
theorem d11 : decode yB 11 = .ok (.arraylength, 1) := by decide +kernel
theorem d12 : decode yB 12 = .ok (.if_icmp (.ge) 20, 3) := by decide +kernel
theorem d15 : decode yB 15 = .ok (.aload_n 0, 1) := by decide +kernel
theorem d16 : decode yB 16 = .ok (.iload_n 2, 1) := by decide +kernel
theorem d17 : decode yB 17 = .ok (.baload, 1) := by decide +kernel
theorem d18 : decode yB 18 = .ok (.aload_n 1, 1) := by decide +kernel
theorem d19 : decode yB 19 = .ok (.iload_n 2, 1) := by decide +kernel
theorem d20 : decode yB 20 = .ok (.baload, 1) := by decide +kernel
theorem d21 : decode yB 21 = .ok (.if_icmp (.eq) 5, 3) := by decide +kernel
theorem d24 : decode yB 24 = .ok (.iconst 0, 1) := by decide +kernel
theorem d25 : decode yB 25 = .ok (.ireturn, 1) := by decide +kernel
theorem d26 : decode yB 26 = .ok (.iinc 2 1, 3) := by decide +kernel
theorem d29 : decode yB 29 = .ok (.goto (-20), 3) := by decide +kernel
theorem d32 : decode yB 32 = .ok (.iconst 1, 1) := by decide +kernel
theorem d33 : decode yB 33 = .ok (.ireturn, 1) := by decide +kernel
theorem d34 : decode yB 34 = .ok (.iconst 0, 1) := by decide +kernel
theorem d35 : decode yB 35 = .ok (.ireturn, 1) := by decide +kernel
def site : List Cond := []
def tab : Cond := tabOf yN yB 3 (some .boolean) site
def P (a : Addr) (A : Cell) (b : Addr) (B : Cell) (args : Array Value) (s : State) : Prop := args = #[.ref a, .ref b] ∧ XT.Arr .byte a A s ∧ Typed .byte A ∧ XT.Arr .byte b B s ∧ Typed .byte B
/-- whether two byte[] are equal, place for place -/
theorem law (l : Launch) (a : Addr) (A : Cell) (b : Addr) (B : Cell) : Law l yN 2 2 0 0 yB 3 (some .boolean) site (P a A b B) (Says01 (EqC A B)) [] 0 0 := by
  refine Law.of_walk (plainFor_of_name (by decide +kernel)) (by decide +kernel) (by decide +kernel) (by decide) (fun _ _ h => by rw [h.1]; rfl) (fun _ U U' hal hh h => ⟨h.1, h.2.1.mv hal hh, h.2.2.1, h.2.2.2.1.mv hal hh, h.2.2.2.2⟩) (fun r U U' V V' h1 hal h2 h => Says01.mv r U U' V V' h1 hal h2 h) ?_
  intro p e s m args below meth c s₁ X0 hexec hbytes hml hret hlk hnm hown hh0 W hP
  obtain ⟨rfl, hA, tA, hB, tB⟩ := hP
  have a31 := hA.2.2.2
  have b31 := hB.2.2.2
  have hA0 := hA.mv X0.warmed.alike hh0
  have hB0 := hB.mv X0.warmed.alike hh0
  have c1 : Steps p.tables e below (s₁.setTop (entryFrame m #[.ref a, .ref b] 3)) (s₁.setTop (mkF m 0 #[.val (.ref a), .val (.ref b), .unset] [])) := entry rfl
  have c2 : Steps p.tables e below (s₁.setTop (entryFrame m #[.ref a, .ref b] 3)) (s₁.setTop (mkF m 4 #[.val (.ref a), .val (.ref b), .unset] [.int (Int32.ofNat B.slots.size), .int (Int32.ofNat A.slots.size)])) := c1.trans (by
    refine XS.aloadN X0.here hexec rfl (hb hbytes d0) rfl rfl ?_
    refine X0.alen hexec hA0 rfl rfl (hb hbytes d1) ?_
    refine XS.aloadN X0.here hexec rfl (hb hbytes d2) rfl rfl ?_
    refine X0.alen hexec hB0 rfl rfl (hb hbytes d3) ?_
    exact Steps.refl _)
  by_cases hs : A.slots.size = B.slots.size
  · have c3 : Steps p.tables e below (s₁.setTop (entryFrame m #[.ref a, .ref b] 3)) (s₁.setTop (mkF m 9 #[.val (.ref a), .val (.ref b), .val (.int 0)] [])) := c2.trans (by
      refine XS.icmpNo X0.here hexec rfl (hb hbytes d4) rfl (ii_ne_f (by rw [hs])) ?_
      refine iconstV X0.here hexec rfl 0 (hb hbytes d7) (by decide) ?_
      refine XS.istoreN X0.here hexec rfl (hb hbytes d8) rfl rfl ?_
      exact Steps.refl _)
    have loop : ∀ (r i : Nat), i + r = A.slots.size → (∀ j, j < i → yv A j = yv B j) → Steps p.tables e below (s₁.setTop (entryFrame m #[.ref a, .ref b] 3)) (s₁.setTop (mkF m 9 #[.val (.ref a), .val (.ref b), .val (.int (Int32.ofNat i))] [])) → ∃ (pc : Nat) (Ls : Array Slot) (v : Int32), (pc = 25 ∨ pc = 33) ∧ ((v = 1 ∧ EqC A B) ∨ (v = 0 ∧ ¬ EqC A B)) ∧ Steps p.tables e below (s₁.setTop (entryFrame m #[.ref a, .ref b] 3)) (s₁.setTop (mkF m pc Ls [.int v])) := by
      intro r
      induction r with
      | zero =>
        intro i hi he cl
        exact ⟨33, _, 1, Or.inr rfl, Or.inl ⟨rfl, hs, fun j hj => he j (by omega)⟩, cl.trans (by
          refine XS.iloadN X0.here hexec rfl (hb hbytes d9) rfl ?_
          refine XS.aloadN X0.here hexec rfl (hb hbytes d10) rfl rfl ?_
          refine X0.alen hexec hA0 rfl rfl (hb hbytes d11) ?_
          refine XS.icmpYes X0.here hexec rfl (pc0 := 12) rfl (hb hbytes d12) rfl (ii_ge_t (nlt32 (by omega) (by omega))) (by decide) rfl ?_
          refine iconstV X0.here hexec rfl 1 (hb hbytes d32) (by decide) ?_
          exact Steps.refl _)⟩
      | succ r ih =>
        intro i hi he cl
        have c4 : Steps p.tables e below (s₁.setTop (entryFrame m #[.ref a, .ref b] 3)) (s₁.setTop (mkF m 21 #[.val (.ref a), .val (.ref b), .val (.int (Int32.ofNat i))] [.int (yv B i), .int (yv A i)])) := cl.trans (by
          refine XS.iloadN X0.here hexec rfl (hb hbytes d9) rfl ?_
          refine XS.aloadN X0.here hexec rfl (hb hbytes d10) rfl rfl ?_
          refine X0.alen hexec hA0 rfl rfl (hb hbytes d11) ?_
          refine XS.icmpNo X0.here hexec rfl (hb hbytes d12) rfl (ii_ge_f (lt32 (by omega) (by omega))) ?_
          refine XS.aloadN X0.here hexec rfl (hb hbytes d15) rfl rfl ?_
          refine XS.iloadN X0.here hexec rfl (hb hbytes d16) rfl ?_
          refine X0.aget hexec hA0 rfl (yv_get hA tA (i := i) (by omega)) rfl rfl (hb hbytes d17) ?_
          refine XS.aloadN X0.here hexec rfl (hb hbytes d18) rfl rfl ?_
          refine XS.iloadN X0.here hexec rfl (hb hbytes d19) rfl ?_
          refine X0.aget hexec hB0 rfl (yv_get hB tB (i := i) (by omega)) rfl rfl (hb hbytes d20) ?_
          exact Steps.refl _)
        by_cases hv : yv A i = yv B i
        · have c5 : Steps p.tables e below (s₁.setTop (entryFrame m #[.ref a, .ref b] 3)) (s₁.setTop (mkF m 9 #[.val (.ref a), .val (.ref b), .val (.int (Int32.ofNat i + 1))] [])) := c4.trans (by
            refine XS.icmpYes X0.here hexec rfl (pc0 := 21) rfl (hb hbytes d21) rfl (ii_eq_t hv) (by decide) rfl ?_
            refine iincV X0.here hexec rfl 1 (hb hbytes d26) (by decide) rfl rfl ?_
            refine XS.goto X0.here hexec rfl (pc0 := 29) rfl (hb hbytes d29) (by decide) rfl ?_
            exact Steps.refl _)
          rw [succ32] at c5
          exact ih (i + 1) (by omega) (fun j hj => by
            by_cases e : j = i
            · rw [e]; exact hv
            · exact he j (by omega)) c5
        · exact ⟨25, _, 0, Or.inl rfl, Or.inr ⟨rfl, fun q => hv (q.2 i (by omega))⟩, c4.trans (by
            refine XS.icmpNo X0.here hexec rfl (hb hbytes d21) rfl (ii_eq_f hv) ?_
            refine iconstV X0.here hexec rfl 0 (hb hbytes d24) (by decide) ?_
            exact Steps.refl _)⟩
    obtain ⟨pc, Ls, v, hpc, hv, cz⟩ := loop A.slots.size 0 (by omega) (fun j hj => absurd hj (Nat.not_lt_zero j)) c3
    have nv : narrow .boolean (.int v) = .int v := by rcases hv with ⟨rfl, -⟩ | ⟨rfl, -⟩ <;> rfl
    rcases hpc with rfl | rfl
    · exact ⟨s₁, some (.int v), _, _, _, X0, rfl, rfl, rfl, (fun h => by cases h), ⟨v, rfl, hh0, hv⟩, fun fs hl => cz.trans (X0.ireturnOut hexec hret nv (Or.inr (Or.inl rfl)) (hb hbytes d25) hl)⟩
    · exact ⟨s₁, some (.int v), _, _, _, X0, rfl, rfl, rfl, (fun h => by cases h), ⟨v, rfl, hh0, hv⟩, fun fs hl => cz.trans (X0.ireturnOut hexec hret nv (Or.inr (Or.inl rfl)) (hb hbytes d33) hl)⟩
  · have c3 : Steps p.tables e below (s₁.setTop (entryFrame m #[.ref a, .ref b] 3)) (s₁.setTop (mkF m 35 #[.val (.ref a), .val (.ref b), .unset] [.int 0])) := c2.trans (by
      refine XS.icmpYes X0.here hexec rfl (pc0 := 4) rfl (hb hbytes d4) rfl (ii_ne_t (ne32 a31 b31 hs)) (by decide) rfl ?_
      refine iconstV X0.here hexec rfl 0 (hb hbytes d34) (by decide) ?_
      exact Steps.refl _)
    exact ⟨s₁, some (.int 0), _, _, _, X0, rfl, rfl, rfl, (fun h => by cases h), ⟨0, rfl, hh0, Or.inr ⟨rfl, fun q => hs q.1⟩⟩, fun fs hl => c3.trans (X0.ireturnOut hexec hret rfl (Or.inr (Or.inl rfl)) (hb hbytes d35) hl)⟩
end LEq
theorem Cod.ty {cd : Int32} {n : Nat} {f : Nat → Int32} {V : Cell} (h : Cod cd n f V) : Typed .byte V := fun i v hv => by
  have hi : i < V.slots.size := (Array.getElem?_eq_some_iff.mp hv).1
  rcases h with ⟨-, k1, k2⟩ | ⟨-, k1, k2, -⟩
  · rw [(k2 i (by omega)).1] at hv; cases hv; exact fits_lo8 _
  · rcases Nat.mod_two_eq_zero_or_one i with e | e
    · obtain ⟨j, rfl⟩ : ∃ j, i = 2 * j := ⟨i / 2, by omega⟩
      rw [(k2 j (by omega)).1] at hv; cases hv; exact fits_lo8 _
    · obtain ⟨j, rfl⟩ : ∃ j, i = 2 * j + 1 := ⟨i / 2, by omega⟩
      rw [(k2 j (by omega)).2] at hv; cases hv; exact fits_lo8 _
/-- the same text -/
def SameT (n : Nat) (f : Nat → Int32) (k : Nat) (g : Nat → Int32) : Prop := n = k ∧ ∀ j, j < n → f j = g j
theorem lo8_inj {x y : Int32} (h0 : ¬ x < 0) (h1 : ¬ 255 < x) (k0 : ¬ y < 0) (k1 : ¬ 255 < y) (h : lo8 x = lo8 y) : x = y := by
  rw [← lo8_mask h0 h1, ← lo8_mask k0 k1, h]
/-- arrays coded by one coder are equal just where the texts are -/
theorem Cod.eqv {cd : Int32} {n k : Nat} {f g : Nat → Int32} {V V' : Cell} (h : Cod cd n f V) (h' : Cod cd k g V') (hf : ∀ j, j < n → ¬ f j < 0 ∧ ¬ 65535 < f j) (hg : ∀ j, j < k → ¬ g j < 0 ∧ ¬ 65535 < g j) : EqC V V' ↔ SameT n f k g := by
  have yvv : ∀ {W : Cell} {i : Nat} {x : Int32}, W.slots[i]? = some (.int x) → yv W i = x := fun q => by unfold yv; rw [q]
  rcases h with ⟨rfl, k1, k2⟩ | ⟨rfl, k1, k2, -⟩
  · rcases h' with ⟨-, m1, m2⟩ | ⟨e, -⟩
    · constructor
      · rintro ⟨e1, e2⟩
        refine ⟨by omega, fun j hj => ?_⟩
        have q := e2 j (by omega)
        rw [yvv (k2 j hj).1, yvv (m2 j (by omega)).1] at q
        exact lo8_inj (hf j hj).1 (k2 j hj).2 (hg j (by omega)).1 (m2 j (by omega)).2 q
      · rintro ⟨rfl, e2⟩
        refine ⟨by omega, fun j hj => ?_⟩
        rw [yvv (k2 j (by omega)).1, yvv (m2 j (by omega)).1, e2 j (by omega)]
    · exact absurd e (by decide)
  · rcases h' with ⟨e, -⟩ | ⟨-, m1, m2, -⟩
    · exact absurd e (by decide)
    · constructor
      · rintro ⟨e1, e2⟩
        refine ⟨by omega, fun j hj => ?_⟩
        have q1 := e2 (2 * j) (by omega)
        have q2 := e2 (2 * j + 1) (by omega)
        rw [yvv (k2 j hj).1, yvv (m2 j (by omega)).1] at q1
        rw [yvv (k2 j hj).2, yvv (m2 j (by omega)).2] at q2
        rw [← pair_says (hf j hj).1 (hf j hj).2, ← pair_says (hg j (by omega)).1 (hg j (by omega)).2, q1, q2]
      · rintro ⟨rfl, e2⟩
        refine ⟨by omega, fun i hi => ?_⟩
        rcases Nat.mod_two_eq_zero_or_one i with e | e
        · obtain ⟨j, rfl⟩ : ∃ j, i = 2 * j := ⟨i / 2, by omega⟩
          rw [yvv (k2 j (by omega)).1, yvv (m2 j (by omega)).1, e2 j (by omega)]
        · obtain ⟨j, rfl⟩ : ∃ j, i = 2 * j + 1 := ⟨i / 2, by omega⟩
          rw [yvv (k2 j (by omega)).2, yvv (m2 j (by omega)).2, e2 j (by omega)]
/-- two codings differ: so do the texts -/
theorem Cod.dif {cd cd' : Int32} {n k : Nat} {f g : Nat → Int32} {V V' : Cell} (h : Cod cd n f V) (h' : Cod cd' k g V') (hne : ¬ cd = cd') : ¬ SameT n f k g := by
  rintro ⟨rfl, e⟩
  rcases h with ⟨rfl, -, k2⟩ | ⟨rfl, -, -, j, hj, hw⟩
  · rcases h' with ⟨rfl, -⟩ | ⟨-, -, -, j, hj, hw⟩
    · exact hne rfl
    · exact (k2 j hj).2 (by rw [e j hj]; exact hw)
  · rcases h' with ⟨-, -, m2⟩ | ⟨rfl, -⟩
    · exact (m2 j hj).2 (by rw [← e j hj]; exact hw)
    · exact hne rfl
/-- an object of exactly C is an instance of C -/
theorem cinst {p : Program} {l : Launch} {e : Env} {R : Room} {s : State} {m : MethodId} {args : Array Value} {below : List Frame} {meth : Method} {c : Code} {T : State} {locs : List Loc} {cells slots : Nat} (X : Stand p l e R s m args below meth c T locs cells slots) (hexec : p.tables.exec = Jvm.exec) {own C : String} {index : Nat} (hown : s.vm.findClass own = some m.cls) (hlink : (Cond.classLink own index C).before args s = true) {a : Addr} (hE : Exact C a T)
    {g : JFrame} (hg : g.method = m) {rest : List Value} (hstack : g.stack = .ref a :: rest) (hdg : decode c.code g.pc = .ok (.instanceof index, 3)) :
    ∃ T', Stand p l e R s m args below meth c T' locs cells slots ∧ T'.heap = T.heap ∧ ∀ target, Steps p.tables e below (T'.setTop { g with pc := g.pc + 3, stack := .int 1 :: rest }) target → Steps p.tables e below (T.setTop g) target := by
  obtain ⟨cB, h1, D, h2, h3, h4⟩ := hE
  have h1' : s.vm.findClass C = some cB := by rw [← X.warmed.alike.findClass]; exact h1
  obtain ⟨vm', X', st⟩ := X.instanceofYes hexec hown hlink h2 h4 h1' (by rw [h3]; exact Jvm.Free.SB.assignable_self _ _) hg hstack hdg
  exact ⟨_, X', rfl, st⟩
theorem cself {p : Program} {l : Launch} {e : Env} {R : Room} {s : State} {m : MethodId} {args : Array Value} {below : List Frame} {meth : Method} {c : Code} {T : State} {locs : List Loc} {cells slots : Nat} (X : Stand p l e R s m args below meth c T locs cells slots) (hexec : p.tables.exec = Jvm.exec) {own C : String} {index : Nat} (hown : s.vm.findClass own = some m.cls) (hlink : (Cond.classLink own index C).before args s = true) {a : Addr} (hE : Exact C a T)
    {g : JFrame} (hg : g.method = m) {rest : List Value} (hstack : g.stack = .ref a :: rest) (hdg : decode c.code g.pc = .ok (.checkcast index, 3)) :
    ∃ T', Stand p l e R s m args below meth c T' locs cells slots ∧ T'.heap = T.heap ∧ ∀ target, Steps p.tables e below (T'.setTop { g with pc := g.pc + 3, stack := .ref a :: rest }) target → Steps p.tables e below (T.setTop g) target := by
  obtain ⟨cB, h1, D, h2, h3, h4⟩ := hE
  have h1' : s.vm.findClass C = some cB := by rw [← X.warmed.alike.findClass]; exact h1
  obtain ⟨vm', X', st⟩ := X.checkcastYes hexec hown hlink h2 h4 h1' (by rw [h3]; exact Jvm.Free.SB.assignable_self _ _) hg hstack hdg
  exact ⟨_, X', rfl, fun t h => st t (by rw [← hstack] at h; exact h)⟩
namespace SEq
def yN : MethodName := ⟨"java/lang/String", "equals", "(Ljava/lang/Object;)Z"⟩
abbrev yB : ByteArray := jdk_42_method_66_code
theorem d0 : decode yB 0 = .ok (.aload_n 0, 1) := by decide +kernel
theorem d1 : decode yB 1 = .ok (.aload_n 1, 1) := by decide +kernel
theorem d2 : decode yB 2 = .ok (.if_acmp (.ne) 5, 3) := by decide +kernel
theorem d5 : decode yB 5 = .ok (.iconst 1, 1) := by decide +kernel
theorem d6 : decode yB 6 = .ok (.ireturn, 1) := by decide +kernel
theorem d7 : decode yB 7 = .ok (.aload_n 1, 1) := by decide +kernel
theorem d8 : decode yB 8 = .ok (.instanceof 10, 3) := by decide +kernel
theorem d11 : decode yB 11 = .ok (.ifCond (.eq) 43, 3) := by decide +kernel
theorem d14 : decode yB 14 = .ok (.aload_n 1, 1) := by decide +kernel
theorem d15 : decode yB 15 = .ok (.checkcast 10, 3) := by decide +kernel
theorem d18 : decode yB 18 = .ok (.astore_n 2, 1) := by decide +kernel
theorem d19 : decode yB 19 = .ok (.getstatic 38, 3) := by decide +kernel
theorem d22 : decode yB 22 = .ok (.ifCond (.eq) 14, 3) := by decide +kernel
theorem d25 : decode yB 25 = .ok (.aload_n 0, 1) := by decide +kernel
theorem d26 : decode yB 26 = .ok (.getfield 15, 3) := by decide +kernel
theorem d29 : decode yB 29 = .ok (.aload_n 2, 1) := by decide +kernel
theorem d30 : decode yB 30 = .ok (.getfield 15, 3) := by decide +kernel
theorem d33 : decode yB 33 = .ok (.if_icmp (.ne) 21, 3) := by decide +kernel
theorem d36 : decode yB 36 = .ok (.aload_n 0, 1) := by decide +kernel
theorem d37 : decode yB 37 = .ok (.getfield 9, 3) := by decide +kernel
theorem d40 : decode yB 40 = .ok (.aload_n 2, 1) := by decide +kernel
theorem d41 : decode yB 41 = .ok (.getfield 9, 3) := by decide +kernel
theorem d44 : decode yB 44 = .ok (.invokestatic 541, 3) := by decide +kernel
theorem d47 : decode yB 47 = .ok (.ifCond (.eq) 7, 3) := by decide +kernel
theorem d50 : decode yB 50 = .ok (.iconst 1, 1) := by decide +kernel
theorem d51 : decode yB 51 = .ok (.goto 4, 3) := by decide +kernel
theorem d54 : decode yB 54 = .ok (.iconst 0, 1) := by decide +kernel
theorem d55 : decode yB 55 = .ok (.ireturn, 1) := by decide +kernel
def site : List Cond := [.classLink "java/lang/String" 10 "java/lang/String", .fieldLink "java/lang/String" 38 "java/lang/String" "COMPACT_STRINGS" "Z", .fieldLink "java/lang/String" 15 "java/lang/String" "coder" "B", .fieldLink "java/lang/String" 9 "java/lang/String" "value" "[B", LEq.tab] ++ staticW "java/lang/String" 541 LEq.yN
def tab : Cond := tabOf yN yB 3 (some .boolean) site
def P (x t : Addr) (V : Cell) (cd : Int32) (n : Nat) (f : Nat → Int32) (y t' : Addr) (V' : Cell) (cd' : Int32) (k : Nat) (g : Nat → Int32) (z : Int32) (args : Array Value) (s : State) : Prop := args = #[.ref x, .ref y] ∧ Txt x t V cd n f s ∧ Txt y t' V' cd' k g s ∧ StaticIs s "java/lang/String" "COMPACT_STRINGS" "Z" (.int z) ∧ ¬ z = 0
/-- equals(Object) of two Strings: whether the texts are the same -/
theorem law (l : Launch) (x t : Addr) (V : Cell) (cd : Int32) (n : Nat) (f : Nat → Int32) (y t' : Addr) (V' : Cell) (cd' : Int32) (k : Nat) (g : Nat → Int32) (z : Int32) : Law l yN 2 1 1 14 yB 3 (some .boolean) site (P x t V cd n f y t' V' cd' k g z) (Says01 (SameT n f k g)) [] 0 0 := by
  refine Law.of_walk (plainFor_of_name (by decide +kernel)) (by decide +kernel) (by decide +kernel) (by decide) (fun _ _ h => by rw [h.1]; rfl) (fun _ U U' hal hh h => ⟨h.1, h.2.1.mv hal hh, h.2.2.1.mv hal hh, h.2.2.2.1.there hal hh, h.2.2.2.2⟩) (fun r U U' V V' h1 hal h2 h => Says01.mv r U U' V V' h1 hal h2 h) ?_
  intro p e s m args below meth c s₁ X0 hexec hbytes hml hret hlk hnm hown hh0 W hP
  obtain ⟨rfl, hx, hy, s1, hz⟩ := hP
  have c1 : Steps p.tables e below (s₁.setTop (entryFrame m #[.ref x, .ref y] 3)) (s₁.setTop (mkF m 2 #[.val (.ref x), .val (.ref y), .unset] [.ref y, .ref x])) := Steps.trans (entry rfl) (by
    show Steps p.tables e below (s₁.setTop (mkF m 0 #[.val (.ref x), .val (.ref y), .unset] [])) _
    refine XS.aloadN X0.here hexec rfl (hb hbytes d0) rfl rfl ?_
    refine XS.aloadN X0.here hexec rfl (hb hbytes d1) rfl rfl ?_
    exact Steps.refl _)
  by_cases hxy : x = y
  · have c2 : Steps p.tables e below (s₁.setTop (entryFrame m #[.ref x, .ref y] 3)) (s₁.setTop (mkF m 6 #[.val (.ref x), .val (.ref y), .unset] [.int 1])) := c1.trans (by
      refine acmpNo X0.here hexec rfl (hb hbytes d2) rfl rfl rfl (by simp [acmp, hxy]) ?_
      refine iconstV X0.here hexec rfl 1 (hb hbytes d5) (by decide) ?_
      exact Steps.refl _)
    subst hxy
    have ec : cd = cd' := by
      obtain ⟨D, fd, a1, a2, a3⟩ := hx.2.2.1
      obtain ⟨D', fd', b1, b2, b3⟩ := hy.2.2.1
      cases a1.symm.trans b1
      obtain ⟨q1, q2, q3, q4⟩ := a2.1
      obtain ⟨r1, r2, r3, r4⟩ := b2.1
      cases q4.symm.trans r4
      cases a3.symm.trans b3; rfl
    have et : t = t' := by
      obtain ⟨D, fd, a1, a2, a3⟩ := hx.2.1
      obtain ⟨D', fd', b1, b2, b3⟩ := hy.2.1
      cases a1.symm.trans b1
      obtain ⟨q1, q2, q3, q4⟩ := a2.1
      obtain ⟨r1, r2, r3, r4⟩ := b2.1
      cases q4.symm.trans r4
      cases a3.symm.trans b3; rfl
    subst ec et
    have ev : V = V' := by cases hx.2.2.2.1.1.symm.trans hy.2.2.2.1.1; rfl
    subst ev
    have hs : SameT n f k g := (Cod.eqv hx.2.2.2.2.1 hy.2.2.2.2.1 hx.2.2.2.2.2 hy.2.2.2.2.2).mp ⟨rfl, fun _ _ => rfl⟩
    exact ⟨s₁, some (.int 1), _, _, _, X0, rfl, rfl, rfl, (fun h => by cases h), ⟨1, rfl, hh0, Or.inl ⟨rfl, hs⟩⟩, fun fs hl => c2.trans (X0.ireturnOut hexec hret rfl (Or.inr (Or.inl rfl)) (hb hbytes d6) hl)⟩
  · have c2 : Steps p.tables e below (s₁.setTop (entryFrame m #[.ref x, .ref y] 3)) (s₁.setTop (mkF m 8 #[.val (.ref x), .val (.ref y), .unset] [.ref y])) := c1.trans (by
      refine acmpYes X0.here hexec rfl (pc0 := 2) rfl (hb hbytes d2) rfl rfl rfl (by simp [acmp, hxy]) (by decide) rfl ?_
      refine XS.aloadN X0.here hexec rfl (hb hbytes d7) rfl rfl ?_
      exact Steps.refl _)
    obtain ⟨T3, X3, q3, st3⟩ := cinst X0 hexec hown (wk W (.classLink "java/lang/String" 10 "java/lang/String")) (hy.mv X0.warmed.alike hh0).1 (g := (mkF m 8 #[.val (.ref x), .val (.ref y), .unset] [.ref y])) rfl (rest := []) rfl (hb hbytes d8)
    have hh3 := q3.trans hh0
    have c4 : Steps p.tables e below (s₁.setTop (entryFrame m #[.ref x, .ref y] 3)) (T3.setTop (mkF m 15 #[.val (.ref x), .val (.ref y), .unset] [.ref y])) := (c2.trans (st3 _ (Steps.refl _))).trans (by
      refine XS.ifNo X3.here hexec rfl (hb hbytes d11) rfl (i0_eq_f (by decide)) ?_
      refine XS.aloadN X3.here hexec rfl (hb hbytes d14) rfl rfl ?_
      exact Steps.refl _)
    obtain ⟨T5, X5, q5, st5⟩ := cself X3 hexec hown (wk W (.classLink "java/lang/String" 10 "java/lang/String")) (hy.mv X3.warmed.alike hh3).1 (g := (mkF m 15 #[.val (.ref x), .val (.ref y), .unset] [.ref y])) rfl (rest := []) rfl (hb hbytes d15)
    have hh5 := q5.trans hh3
    have c6 : Steps p.tables e below (s₁.setTop (entryFrame m #[.ref x, .ref y] 3)) (T5.setTop (mkF m 19 #[.val (.ref x), .val (.ref y), .val (.ref y)] [])) := (c4.trans (st5 _ (Steps.refl _))).trans (by
      refine XS.astoreN X5.here hexec rfl (hb hbytes d18) rfl rfl rfl ?_
      exact Steps.refl _)
    obtain ⟨T7, X7, q7, st7⟩ := X5.sget hexec hown (wk W (.fieldLink "java/lang/String" 38 "java/lang/String" "COMPACT_STRINGS" "Z")) s1 (fun _ _ h => by rw [hh5]; exact h) (g := (mkF m 19 #[.val (.ref x), .val (.ref y), .val (.ref y)] [])) rfl (hb hbytes d19)
    have hh7 := q7.trans hh5
    have c8 : Steps p.tables e below (s₁.setTop (entryFrame m #[.ref x, .ref y] 3)) (T7.setTop (mkF m 26 #[.val (.ref x), .val (.ref y), .val (.ref y)] [.ref x])) := (c6.trans (st7 _ (Steps.refl _))).trans (by
      refine XS.ifNo X7.here hexec rfl (hb hbytes d22) rfl (i0_eq_f hz) ?_
      refine XS.aloadN X7.here hexec rfl (hb hbytes d25) rfl rfl ?_
      exact Steps.refl _)
    obtain ⟨T9, X9, q9, st9⟩ := X7.hget hexec hown (wk W (.fieldLink "java/lang/String" 15 "java/lang/String" "coder" "B")) (hx.mv X7.warmed.alike hh7).2.2.1 (g := (mkF m 26 #[.val (.ref x), .val (.ref y), .val (.ref y)] [.ref x])) rfl (rest := []) rfl (hb hbytes d26)
    have hh9 := q9.trans hh7
    have c10 : Steps p.tables e below (s₁.setTop (entryFrame m #[.ref x, .ref y] 3)) (T9.setTop (mkF m 30 #[.val (.ref x), .val (.ref y), .val (.ref y)] [.ref y, .int cd])) := (c8.trans (st9 _ (Steps.refl _))).trans (by
      refine XS.aloadN X9.here hexec rfl (hb hbytes d29) rfl rfl ?_
      exact Steps.refl _)
    obtain ⟨T11, X11, q11, st11⟩ := X9.hget hexec hown (wk W (.fieldLink "java/lang/String" 15 "java/lang/String" "coder" "B")) (hy.mv X9.warmed.alike hh9).2.2.1 (g := (mkF m 30 #[.val (.ref x), .val (.ref y), .val (.ref y)] [.ref y, .int cd])) rfl (rest := [.int cd]) rfl (hb hbytes d30)
    have hh11 := q11.trans hh9
    have c12 : Steps p.tables e below (s₁.setTop (entryFrame m #[.ref x, .ref y] 3)) (T11.setTop (mkF m 33 #[.val (.ref x), .val (.ref y), .val (.ref y)] [.int cd', .int cd])) := c10.trans (st11 _ (Steps.refl _))
    by_cases hcd : cd = cd'
    · subst hcd
      have c13 : Steps p.tables e below (s₁.setTop (entryFrame m #[.ref x, .ref y] 3)) (T11.setTop (mkF m 37 #[.val (.ref x), .val (.ref y), .val (.ref y)] [.ref x])) := c12.trans (by
        refine XS.icmpNo X11.here hexec rfl (hb hbytes d33) rfl (ii_ne_f rfl) ?_
        refine XS.aloadN X11.here hexec rfl (hb hbytes d36) rfl rfl ?_
        exact Steps.refl _)
      obtain ⟨T14, X14, q14, st14⟩ := X11.hget hexec hown (wk W (.fieldLink "java/lang/String" 9 "java/lang/String" "value" "[B")) (hx.mv X11.warmed.alike hh11).2.1 (g := (mkF m 37 #[.val (.ref x), .val (.ref y), .val (.ref y)] [.ref x])) rfl (rest := []) rfl (hb hbytes d37)
      have hh14 := q14.trans hh11
      have c15 : Steps p.tables e below (s₁.setTop (entryFrame m #[.ref x, .ref y] 3)) (T14.setTop (mkF m 41 #[.val (.ref x), .val (.ref y), .val (.ref y)] [.ref y, .ref t])) := (c13.trans (st14 _ (Steps.refl _))).trans (by
        refine XS.aloadN X14.here hexec rfl (hb hbytes d40) rfl rfl ?_
        exact Steps.refl _)
      obtain ⟨T16, X16, q16, st16⟩ := X14.hget hexec hown (wk W (.fieldLink "java/lang/String" 9 "java/lang/String" "value" "[B")) (hy.mv X14.warmed.alike hh14).2.1 (g := (mkF m 41 #[.val (.ref x), .val (.ref y), .val (.ref y)] [.ref y, .ref t])) rfl (rest := [.ref t]) rfl (hb hbytes d41)
      have hh16 := q16.trans hh14
      have c17 : Steps p.tables e below (s₁.setTop (entryFrame m #[.ref x, .ref y] 3)) (T16.setTop (mkF m 44 #[.val (.ref x), .val (.ref y), .val (.ref y)] [.ref t', .ref t])) := c15.trans (st16 _ (Steps.refl _))
      obtain ⟨v18, T18, X18, E18, g18⟩ := X16.callS hexec (LEq.law l t V t' V') hown (wks W (staticW "java/lang/String" 541 LEq.yN)) (wk W LEq.tab) (W := 0) (Nat.le_of_ble_eq_true rfl) (Nat.le_of_ble_eq_true rfl) (Nat.le_refl _) (Nat.le_refl _) (g := (mkF m 44 #[.val (.ref x), .val (.ref y), .val (.ref y)] [.ref t', .ref t])) rfl (by rw [hml]; rfl) c17 (argsL := [.ref t, .ref t']) (rest := []) rfl rfl (by show 2 * 0 + 0 ≤ _; decide) (hb hbytes d44) (⟨rfl, hx.2.2.2.1.mv X16.warmed.alike hh16, hx.2.2.2.2.1.ty, hy.2.2.2.1.mv X16.warmed.alike hh16, hy.2.2.2.2.1.ty⟩)
      obtain ⟨v, rfl, q18, hv⟩ := E18
      have iff := Cod.eqv hx.2.2.2.2.1 hy.2.2.2.2.1 hx.2.2.2.2.2 hy.2.2.2.2.2
      rcases hv with ⟨rfl, he⟩ | ⟨rfl, he⟩
      · have c19 : Steps p.tables e below (s₁.setTop (entryFrame m #[.ref x, .ref y] 3)) (T18.setTop (mkF m 55 #[.val (.ref x), .val (.ref y), .val (.ref y)] [.int 1])) := Steps.trans g18 (by
          refine XS.ifNo X18.here hexec rfl (hb hbytes d47) rfl (i0_eq_f (by decide)) ?_
          refine iconstV X18.here hexec rfl 1 (hb hbytes d50) (by decide) ?_
          refine XS.goto X18.here hexec rfl (pc0 := 51) rfl (hb hbytes d51) (by decide) rfl ?_
          exact Steps.refl _)
        exact ⟨T18, some (.int 1), _, _, _, X18, rfl, rfl, rfl, (fun h => by cases h), ⟨1, rfl, q18.trans hh16, Or.inl ⟨rfl, iff.mp he⟩⟩, fun fs hl => c19.trans (X18.ireturnOut hexec hret rfl (Or.inr (Or.inl rfl)) (hb hbytes d55) hl)⟩
      · have c19 : Steps p.tables e below (s₁.setTop (entryFrame m #[.ref x, .ref y] 3)) (T18.setTop (mkF m 55 #[.val (.ref x), .val (.ref y), .val (.ref y)] [.int 0])) := Steps.trans g18 (by
          refine XS.ifYes X18.here hexec rfl (pc0 := 47) rfl (hb hbytes d47) rfl (i0_eq_t rfl) (by decide) rfl ?_
          refine iconstV X18.here hexec rfl 0 (hb hbytes d54) (by decide) ?_
          exact Steps.refl _)
        exact ⟨T18, some (.int 0), _, _, _, X18, rfl, rfl, rfl, (fun h => by cases h), ⟨0, rfl, q18.trans hh16, Or.inr ⟨rfl, fun q => he (iff.mpr q)⟩⟩, fun fs hl => c19.trans (X18.ireturnOut hexec hret rfl (Or.inr (Or.inl rfl)) (hb hbytes d55) hl)⟩
    · have c13 : Steps p.tables e below (s₁.setTop (entryFrame m #[.ref x, .ref y] 3)) (T11.setTop (mkF m 55 #[.val (.ref x), .val (.ref y), .val (.ref y)] [.int 0])) := c12.trans (by
        refine XS.icmpYes X11.here hexec rfl (pc0 := 33) rfl (hb hbytes d33) rfl (ii_ne_t hcd) (by decide) rfl ?_
        refine iconstV X11.here hexec rfl 0 (hb hbytes d54) (by decide) ?_
        exact Steps.refl _)
      exact ⟨T11, some (.int 0), _, _, _, X11, rfl, rfl, rfl, (fun h => by cases h), ⟨0, rfl, hh11, Or.inr ⟨rfl, Cod.dif hx.2.2.2.2.1 hy.2.2.2.2.1 hcd⟩⟩, fun fs hl => c13.trans (X11.ireturnOut hexec hret rfl (Or.inr (Or.inl rfl)) (hb hbytes d55) hl)⟩
theorem pays {l : Launch} {R : Room} {p : Program} {e : Env} {below : List Frame} {s : State} {sargs : Array Value} {len W : Nat} (x t : Addr) (V : Cell) (cd : Int32) (n : Nat) (f : Nat → Int32) (y t' : Addr) (V' : Cell) (cd' : Int32) (k : Nat) (g : Nat → Int32) (z : Int32) (htab : tab.before sargs s = true) (hfr : 2 ≤ R.frames) (hlo : W + 28 ≤ R.locals) :
    Back l R p e below s sargs yN len W (fun A₁ a₁ => A₁.cells + 0 ≤ R.cells ∧ A₁.slots + 0 ≤ R.slots ∧ P x t V cd n f y t' V' cd' k g z a₁ A₁.U) (fun A₁ _ v₁ B₁ => Says01 (SameT n f k g) v₁ A₁.U B₁.U ∧ B₁.locs = A₁.locs ++ [] ∧ B₁.cells = A₁.cells + 0 ∧ B₁.slots = A₁.slots + 0) :=
  (law l x t V cd n f y t' V' cd' k g z).pays htab hfr (by omega)
end SEq
end StrChars
namespace StrChars.Road
open Jvm Sem ClassFile Op Lib Jvm.Stand Jvm.Free Jvm.Free.XT
open Jvm.Lib.Cold (StaticIs)
/-- the words of String.equals(Object) -/
abbrev wordsEq : List Jvm.Cond := [.code SEq.yN SEq.yB 3 (some .boolean), .initialized ST, .classLink ST 10 ST, .fieldLink ST 38 ST "COMPACT_STRINGS" "Z", .fieldLink ST 15 ST "coder" "B", .fieldLink ST 9 ST "value" "[B", .methodLink ST 541 LEq.yN, .static LEq.yN, .code LEq.yN LEq.yB 3 (some .boolean), .initialized "java/lang/StringLatin1"]
theorem tabEq_of {a : Array Value} {s : State} (h : ∀ w ∈ wordsEq, w.before a s = true) : SEq.tab.before a s = true := by
  have hl : LEq.tab.before a s = true := unparts (wk h (.code LEq.yN LEq.yB 3 (some .boolean))) (wks h (.initialized LEq.yN.cls :: LEq.site))
  have q := consq hl h
  exact unparts (wk q (.code SEq.yN SEq.yB 3 (some .boolean))) (wks q (.initialized SEq.yN.cls :: SEq.site))
theorem movedEq {Z s : State} {a0 args : Array Value} (hZ : Z.Warmed39 s.vm) (hw : ∀ d ∈ wordsEq, d.before a0 Z = true) : ∀ d ∈ wordsEq, d.before args s = true := fun d hd => by
  have t : ∀ d ∈ wordsEq, (d.onTables && d.keepsFace) = true := by decide +kernel
  exact RoadKit.mv hZ (hw d hd) (t d hd)
/-- the road's facts of a String, as the laws ask it -/
theorem txt_of {Z U : State} {a0 : Array Value} {kI : Nat} (wi : (Jvm.Cond.instantiable ST kI).before a0 Z = true) (al : Z.vm.Alike U.vm) {x t : Addr} {kb : ClassId} {cs : List Int32} {cd N2 : Int32} {vs : List Value} (E : RoadKit.Exa Z U.heap x ST) (V : RoadKit.Fld Z U.heap x ST "value" "[B" (.ref t)) (C : RoadKit.Fld Z U.heap x ST "coder" "B" (.int cd)) (K : RoadKit.Arv Z U.heap t kb .byte N2 vs (.int 0)) (hc : CodA cs cd N2 vs) (hb : ∀ c ∈ cs, ¬ c < 0 ∧ ¬ (65535 : Int32) < c) (l2 : cs.length ≤ 4000) :
    ∃ A, Txt x t A cd cs.length (fun j => cs.getD j 0) U := by
  obtain ⟨A, K1, K2, K3, K4, K5, K6⟩ := K
  have hcod := hc.cod (by omega) K3 K5
  obtain ⟨D, fV, fC, hB, F1, F2, g1, g2, -, -⟩ := strObj wi al E V C
  exact ⟨A, ⟨_, hB.2.2.1, D, hB.1, rfl, by cases q : D.vm <;> first | rfl | exact absurd q (hB.2.1.2 _)⟩, Has.of hB F1 g1, Has.of hB F2 g2, ⟨K1.1, State.isArrayOf_alike al K1.2.1, K1.2.2, by rcases hcod with ⟨-, q, -⟩ | ⟨-, q, -⟩ <;> omega⟩, hcod, fun j hj => by
    have e : cs.getD j 0 = cs[j] := by simp [List.getD_eq_getElem?_getD, hj]
    show ¬ cs.getD j 0 < 0 ∧ ¬ 65535 < cs.getD j 0
    rw [e]; exact hb _ (List.getElem_mem _)⟩
theorem same_list (cs ds : List Int32) : SameT cs.length (fun j => cs.getD j 0) ds.length (fun j => ds.getD j 0) ↔ cs = ds := by
  constructor
  · rintro ⟨e, q⟩
    refine List.ext_getElem e fun j h1 h2 => ?_
    have := q j h1
    simpa [List.getD_eq_getElem?_getD, h1, h2] using this
  · rintro rfl
    exact ⟨rfl, fun _ _ => rfl⟩
/-- **equals(Object) OF TWO SUCH STRINGS**: 1 just where the chars are the same -/
theorem eqW {p : Program} {l : Launch} {e : Env} {R : Room} {s : State} {args : Array Value} {below : List Frame} {len W : Nat} {Z : State} {a0 : Array Value} {h : Heap} (hZ : Z.Warmed39 s.vm) (hw : ∀ d ∈ wordsEq, d.before a0 Z = true) {kI : Nat} (wi : (Jvm.Cond.instantiable ST kI).before a0 Z = true)
    {x t : Addr} {kb : ClassId} {cs : List Int32} {cd N2 : Int32} {vs : List Value} (E : RoadKit.Exa Z h x ST) (V : RoadKit.Fld Z h x ST "value" "[B" (.ref t)) (C : RoadKit.Fld Z h x ST "coder" "B" (.int cd)) (K : RoadKit.Arv Z h t kb .byte N2 vs (.int 0)) (hc : CodA cs cd N2 vs) (hb : ∀ c ∈ cs, ¬ c < 0 ∧ ¬ (65535 : Int32) < c) (l2 : cs.length ≤ 4000)
    {y t' : Addr} {kb' : ClassId} {ds : List Int32} {cd' N2' : Int32} {vs' : List Value} (E' : RoadKit.Exa Z h y ST) (V' : RoadKit.Fld Z h y ST "value" "[B" (.ref t')) (C' : RoadKit.Fld Z h y ST "coder" "B" (.int cd')) (K' : RoadKit.Arv Z h t' kb' .byte N2' vs' (.int 0)) (hc' : CodA ds cd' N2' vs') (hb' : ∀ c ∈ ds, ¬ c < 0 ∧ ¬ (65535 : Int32) < c) (l2' : ds.length ≤ 4000)
    {z : Int32} (S : RoadKit.Sta Z h ST "COMPACT_STRINGS" "Z" (.int z)) (hz : ¬ z = 0) (hfr : 2 ≤ R.frames) (hlo : W + 28 ≤ R.locals) :
    Back l R p e below s args (⟨"java/lang/String", "equals", "(Ljava/lang/Object;)Z"⟩ : MethodName) len W (fun P a => a = #[.ref x, .ref y] ∧ P.U.heap = h ∧ P.cells + 0 ≤ R.cells ∧ P.slots + 0 ≤ R.slots)
      (fun P _ v B => ∃ L, (((v = some (.int 1) ∧ cs = ds) ∨ (v = some (.int 0) ∧ ¬ cs = ds)) ∧ L = [] ∧ B.U.heap = h) ∧ B.locs = P.locs ++ L ∧ B.cells = P.cells + 0 ∧ B.slots = P.slots + 0) := by
  intro m meth c P g ig mk a X hg hsize hdg hW hn hp'
  obtain ⟨rfl, rfl, r1, r2⟩ := hp'
  have al : Z.vm.Alike P.U.vm := hZ.alike.trans X.warmed.alike
  obtain ⟨A, hx⟩ := txt_of wi al E V C K hc hb l2
  obtain ⟨A', hy⟩ := txt_of wi al E' V' C' K' hc' hb' l2'
  obtain ⟨v, B, X', ⟨⟨w, hv, hh, hq⟩, hl, hk, hs⟩, st⟩ := SEq.pays x t A cd cs.length (fun j => cs.getD j 0) y t' A' cd' ds.length (fun j => ds.getD j 0) z (tabEq_of (movedEq hZ hw)) hfr hlo m meth c P g ig mk _ X hg hsize hdg hW hn ⟨r1, r2, rfl, hx, hy, sta_is al S, hz⟩
  refine ⟨v, B, X', ⟨[], ⟨?_, rfl, hh⟩, hl, hk, hs⟩, st⟩
  rcases hq with ⟨rfl, q⟩ | ⟨rfl, q⟩
  · exact Or.inl ⟨hv, (same_list cs ds).mp q⟩
  · exact Or.inr ⟨hv, fun e => q ((same_list cs ds).mpr e)⟩
end StrChars.Road
namespace StrChars
open Jvm Sem ClassFile Op Lib Jvm.Stand Jvm.Free.XT Jvm.Free.ALB Jvm.Free.JM Jvm.Free
open Jvm.Lib.Cold (StaticIs)
namespace ChN
def yN : MethodName := ⟨"java/lang/String", "charAt", "(I)C"⟩
abbrev yB : ByteArray := jdk_42_method_56_code
theorem d0 : decode yB 0 = .ok (.aload_n 0, 1) := by decide +kernel
theorem d1 : decode yB 1 = .ok (.invokevirtual 492, 3) := by decide +kernel
theorem d4 : decode yB 4 = .ok (.ifCond (.eq) 12, 3) := by decide +kernel
theorem d7 : decode yB 7 = .ok (.aload_n 0, 1) := by decide +kernel
theorem d8 : decode yB 8 = .ok (.getfield 9, 3) := by decide +kernel
theorem d11 : decode yB 11 = .ok (.iload_n 1, 1) := by decide +kernel
theorem d12 : decode yB 12 = .ok (.invokestatic 495, 3) := by decide +kernel
theorem d15 : decode yB 15 = .ok (.ireturn, 1) := by decide +kernel
def site : List Cond := [.fieldLink "java/lang/String" 9 "java/lang/String" "value" "[B", IsL.tab, LChA.tab] ++ virtW "java/lang/String" 492 "java/lang/String" IsL.yN IsL.yN ++ staticW "java/lang/String" 495 LChA.yN
def tab : Cond := tabOf yN yB 2 (some .char) site
def P (x t : Addr) (V : Cell) (n : Nat) (f : Nat → Int32) (z : Int32) (fm : Value) (i : Nat) (args : Array Value) (s : State) : Prop := args = #[.ref x, .int (Int32.ofNat i)] ∧ Txt x t V 0 n f s ∧ i < n ∧ StaticIs s "java/lang/String" "COMPACT_STRINGS" "Z" (.int z) ∧ ¬ z = 0 ∧ StaticIs s "jdk/internal/util/Preconditions" "SIOOBE_FORMATTER" "Ljava/util/function/BiFunction;" fm ∧ fm.isRef = true
def E (f : Nat → Int32) (i : Nat) (r : Option Value) (s u : State) : Prop := XT.PureE (some (.int (f i))) r s u
/-- charAt(i) of a Latin-1 String of n chars, i < n: f i -/
theorem law (l : Launch) (x t : Addr) (V : Cell) (n : Nat) (f : Nat → Int32) (z : Int32) (fm : Value) (i : Nat) : Law l yN 2 1 3 40 yB 2 (some .char) site (P x t V n f z fm i) (E f i) [] 0 0 := by
  refine Law.of_walk (plainFor_of_name (by decide +kernel)) (by decide +kernel) (by decide +kernel) (by decide) (fun _ _ h => by rw [h.1]; rfl) (fun _ U U' hal hh h => ⟨h.1, h.2.1.mv hal hh, h.2.2.1, h.2.2.2.1.there hal hh, h.2.2.2.2.1, h.2.2.2.2.2.1.there hal hh, h.2.2.2.2.2.2⟩) (fun r U U' V V' h1 hal h2 h => XT.PureE.mv r U U' V V' h1 hal h2 h) ?_
  intro p e s m args below meth c s₁ X0 hexec hbytes hml hret hlk hnm hown hh0 W hP
  obtain ⟨rfl, hx, hi, s1, hz, s3, rf⟩ := hP
  have v31 := hx.2.2.2.1.2.2.2
  have hr := hx.2.2.2.2.2 i hi
  have hx0 := hx.mv X0.warmed.alike hh0
  have c1 : Steps p.tables e below (s₁.setTop (entryFrame m #[.ref x, .int (Int32.ofNat i)] 2)) (s₁.setTop (mkF m 1 #[.val (.ref x), .val (.int (Int32.ofNat i))] [.ref x])) := Steps.trans (entry rfl) (by
    show Steps p.tables e below (s₁.setTop (mkF m 0 #[.val (.ref x), .val (.int (Int32.ofNat i))] [])) _
    refine XS.aloadN X0.here hexec rfl (hb hbytes d0) rfl rfl ?_
    exact Steps.refl _)
  obtain ⟨v2, T2, X2, E2, g2⟩ := X0.callV hexec (IsL.law l x 0 z) hown (wks W (virtW "java/lang/String" 492 "java/lang/String" IsL.yN IsL.yN)) rfl (by decide) (wk W IsL.tab) (W := 0) (Nat.le_of_ble_eq_true rfl) (Nat.le_of_ble_eq_true rfl) (Nat.le_refl _) (Nat.le_refl _) (hx0.1.fc X0.warmed.alike) hx0.1.is (g := (mkF m 1 #[.val (.ref x), .val (.int (Int32.ofNat i))] [.ref x])) rfl (by rw [hml]; rfl) c1 (argsL := []) (rest := []) rfl rfl (by show 2 * 0 + 0 ≤ _; decide) (hb hbytes d1) (⟨rfl, hx0.2.2.1, hx.2.2.2.2.1.cd, s1.there X0.warmed.alike hh0, hz⟩)
  obtain ⟨rfl, q2⟩ := E2
  have hh2 := q2.trans hh0
  have hx2 := hx.mv X2.warmed.alike hh2
  obtain ⟨-, k1, k2⟩ | ⟨k0, -⟩ := hx.2.2.2.2.1
  · have c3 : Steps p.tables e below (s₁.setTop (entryFrame m #[.ref x, .int (Int32.ofNat i)] 2)) (T2.setTop (mkF m 8 #[.val (.ref x), .val (.int (Int32.ofNat i))] [.ref x])) := Steps.trans g2 (by
      refine XS.ifNo X2.here hexec rfl (hb hbytes d4) rfl (i0_eq_f (by decide)) ?_
      refine XS.aloadN X2.here hexec rfl (hb hbytes d7) rfl rfl ?_
      exact Steps.refl _)
    obtain ⟨T4, X4, q4, st4⟩ := X2.hget hexec hown (wk W (.fieldLink "java/lang/String" 9 "java/lang/String" "value" "[B")) hx2.2.1 (g := (mkF m 8 #[.val (.ref x), .val (.int (Int32.ofNat i))] [.ref x])) rfl (rest := []) rfl (hb hbytes d8)
    have hh4 := q4.trans hh2
    have c5 : Steps p.tables e below (s₁.setTop (entryFrame m #[.ref x, .int (Int32.ofNat i)] 2)) (T4.setTop (mkF m 12 #[.val (.ref x), .val (.int (Int32.ofNat i))] [.int (Int32.ofNat i), .ref t])) := (c3.trans (st4 _ (Steps.refl _))).trans (by
      refine XS.iloadN X4.here hexec rfl (hb hbytes d11) rfl ?_
      exact Steps.refl _)
    obtain ⟨v6, T6, X6, E6, g6⟩ := X4.callS hexec (LChA.law l t V i (lo8 (f i)) fm) hown (wks W (staticW "java/lang/String" 495 LChA.yN)) (wk W LChA.tab) (W := 0) (Nat.le_of_ble_eq_true rfl) (Nat.le_of_ble_eq_true rfl) (Nat.le_refl _) (Nat.le_refl _) (g := (mkF m 12 #[.val (.ref x), .val (.int (Int32.ofNat i))] [.int (Int32.ofNat i), .ref t])) rfl (by rw [hml]; rfl) c5 (argsL := [.ref t, .int (Int32.ofNat i)]) (rest := []) rfl rfl (by show 2 * 0 + 0 ≤ _; decide) (hb hbytes d12) (⟨rfl, hx.2.2.2.1.mv X4.warmed.alike hh4, (k2 i hi).1, s3.there X4.warmed.alike hh4, rf⟩)
    obtain ⟨rfl, q6⟩ := E6
    rw [chr8_lo8 hr.1 (k2 i hi).2] at g6
    exact ⟨T6, some (.int (f i)), _, _, _, X6, rfl, rfl, rfl, (fun h => by cases h), ⟨rfl, q6.trans hh4⟩, fun fs hl => Steps.trans g6 (X6.ireturnOut hexec hret (narrow_ch hr.1 hr.2) (Or.inr (Or.inr (Or.inr (Or.inl rfl)))) (hb hbytes d15) hl)⟩
  · exact absurd k0 (by decide)
theorem pays {l : Launch} {R : Room} {p : Program} {e : Env} {below : List Frame} {s : State} {sargs : Array Value} {len W : Nat} (x t : Addr) (V : Cell) (n : Nat) (f : Nat → Int32) (z : Int32) (fm : Value) (i : Nat) (htab : tab.before sargs s = true) (hfr : 4 ≤ R.frames) (hlo : W + 53 ≤ R.locals) :
    Back l R p e below s sargs yN len W (fun A₁ a₁ => A₁.cells + 0 ≤ R.cells ∧ A₁.slots + 0 ≤ R.slots ∧ P x t V n f z fm i a₁ A₁.U) (fun A₁ _ v₁ B₁ => E f i v₁ A₁.U B₁.U ∧ B₁.locs = A₁.locs ++ [] ∧ B₁.cells = A₁.cells + 0 ∧ B₁.slots = A₁.slots + 0) :=
  (law l x t V n f z fm i).pays htab hfr (by omega)
end ChN
end StrChars
namespace StrChars.Road
open Jvm Sem ClassFile Op Lib Jvm.Stand Jvm.Free Jvm.Free.XT
open Jvm.Lib.Cold (StaticIs)
/-- the words of String.charAt(int), the Latin-1 road alone -/
abbrev wordsChN : List Jvm.Cond := [.code ChN.yN ChN.yB 2 (some .char), .initialized ST, .fieldLink ST 9 ST "value" "[B", .fieldLink ST 38 ST "COMPACT_STRINGS" "Z", .fieldLink ST 15 ST "coder" "B", .code IsL.yN IsL.yB 1 (some .boolean), .methodLink ST 492 IsL.yN, .declares IsL.yN, .selects ST IsL.yN IsL.yN, .instanceMethod IsL.yN,
  .methodLink ST 495 LChA.yN, .static LChA.yN, .code LChA.yN LChA.yB 2 (some .char), .initialized "java/lang/StringLatin1", .methodLink "java/lang/StringLatin1" 9 JO.Str_checkIndex.yN, .static JO.Str_checkIndex.yN, .code JO.Str_checkIndex.yN JO.Str_checkIndex.yB 2 none,
  .fieldLink ST 1053 "jdk/internal/util/Preconditions" "SIOOBE_FORMATTER" "Ljava/util/function/BiFunction;", .methodLink ST 1059 JC.PreCheck.yN, .static JC.PreCheck.yN, .code JC.PreCheck.yN JC.PreCheck.yB 3 (some .int), .initialized "jdk/internal/util/Preconditions"]
theorem tabChN_of {a : Array Value} {s : State} (h : ∀ w ∈ wordsChN, w.before a s = true) : ChN.tab.before a s = true := by
  have hp : JC.PreCheck.tab.before a s = true := unparts (wk h (.code JC.PreCheck.yN JC.PreCheck.yB 3 (some .int))) (wks h (.initialized JC.PreCheck.yN.cls :: JC.PreCheck.site))
  have qk := consq hp h
  have hk : JO.Str_checkIndex.tab.before a s = true := unparts (wk qk (.code JO.Str_checkIndex.yN JO.Str_checkIndex.yB 2 none)) (wks qk (.initialized JO.Str_checkIndex.yN.cls :: JO.Str_checkIndex.site))
  have ql := consq hk h
  have hl : LChA.tab.before a s = true := unparts (wk ql (.code LChA.yN LChA.yB 2 (some .char))) (wks ql (.initialized LChA.yN.cls :: LChA.site))
  have hi : IsL.tab.before a s = true := unparts (wk h (.code IsL.yN IsL.yB 1 (some .boolean))) (wks h (.initialized IsL.yN.cls :: IsL.site))
  have q := consq hi (consq hl h)
  exact unparts (wk q (.code ChN.yN ChN.yB 2 (some .char))) (wks q (.initialized ChN.yN.cls :: ChN.site))
theorem movedChN {Z s : State} {a0 args : Array Value} (hZ : Z.Warmed39 s.vm) (hw : ∀ d ∈ wordsChN, d.before a0 Z = true) : ∀ d ∈ wordsChN, d.before args s = true := fun d hd => by
  have t : ∀ d ∈ wordsChN, (d.onTables && d.keepsFace) = true := by decide +kernel
  exact RoadKit.mv hZ (hw d hd) (t d hd)
/-- **charAt(i) OF A LATIN-1 STRING**, i < n: the char -/
theorem chN {p : Program} {l : Launch} {e : Env} {R : Room} {s : State} {args : Array Value} {below : List Frame} {len W : Nat} {Z : State} {a0 : Array Value} {h : Heap} (hZ : Z.Warmed39 s.vm) (hw : ∀ d ∈ wordsChN, d.before a0 Z = true) {kI : Nat} (wi : (Jvm.Cond.instantiable ST kI).before a0 Z = true)
    {x t : Addr} {kb : ClassId} {cs : List Int32} {N2 z : Int32} {vs : List Value} {fm : Value} {i : Nat} {j : Int32} (E : RoadKit.Exa Z h x ST) (V : RoadKit.Fld Z h x ST "value" "[B" (.ref t)) (C : RoadKit.Fld Z h x ST "coder" "B" (.int 0)) (K : RoadKit.Arv Z h t kb .byte N2 vs (.int 0)) (hc : CodA cs 0 N2 vs) (hb : ∀ c ∈ cs, ¬ c < 0 ∧ ¬ (65535 : Int32) < c)
    (S : RoadKit.Sta Z h ST "COMPACT_STRINGS" "Z" (.int z)) (hz : ¬ z = 0) (F : RoadKit.Sta Z h "jdk/internal/util/Preconditions" "SIOOBE_FORMATTER" "Ljava/util/function/BiFunction;" fm) (rf : fm.isRef = true) (l2 : cs.length ≤ 4000) (hi : i < cs.length) (hj : j = Int32.ofNat i) (hfr : 4 ≤ R.frames) (hlo : W + 53 ≤ R.locals) :
    Back l R p e below s args (⟨"java/lang/String", "charAt", "(I)C"⟩ : MethodName) len W (fun P a => a = #[.ref x, .int j] ∧ P.U.heap = h ∧ P.cells + 0 ≤ R.cells ∧ P.slots + 0 ≤ R.slots)
      (fun P _ v B => ∃ L, (v = some (.int (cs.getD i 0)) ∧ L = [] ∧ B.U.heap = h) ∧ B.locs = P.locs ++ L ∧ B.cells = P.cells + 0 ∧ B.slots = P.slots + 0) := by
  subst hj
  intro m meth c P g ig mk a X hg hsize hdg hW hn hp'
  obtain ⟨rfl, rfl, r1, r2⟩ := hp'
  have al : Z.vm.Alike P.U.vm := hZ.alike.trans X.warmed.alike
  obtain ⟨A, hx⟩ := txt_of wi al E V C K hc hb l2
  obtain ⟨v, B, X', ⟨⟨hv, hh⟩, hl, hk, hs⟩, st⟩ := ChN.pays x t A cs.length (fun j => cs.getD j 0) z fm i (tabChN_of (movedChN hZ hw)) hfr hlo m meth c P g ig mk _ X hg hsize hdg hW hn ⟨r1, r2, rfl, hx, hi, sta_is al S, hz, sta_is al F, rf⟩
  exact ⟨v, B, X', ⟨[], ⟨hv, rfl, hh⟩, hl, hk, hs⟩, st⟩
/-- what backV says of its String, as the contracts of this text ask it: cs's low bytes, coder 0 -/
theorem codOf {cs : List Int32} {n : Nat} (hn : cs.length = n) (hb : ∀ c ∈ cs, ¬ 255 < c) : CodA cs 0 (Int32.ofNat n) ((cs.map lo8).map Value.int) := Or.inl ⟨rfl, by rw [hn], by simp [List.map_map, Function.comp_def], hb⟩
end StrChars.Road
end Jvm.Pilot.@@N@@

namespace Jvm.Pilot.@@N@@.Own
open Jvm Jvm.ClassFile Sem Op Lib Jvm.Free Jvm.Stand Jvm.LawKit Jvm.RoadKit
abbrev ST : String := "java/lang/String"
abbrev Nar (_s : State) (_vm : Vm) : Prop := True
/-- where a walk stands -/
def Sit (p : Program) (l : Launch) (e : Env) (R : Room) (s : State) (m : MethodId) (args : Array Value) (below : List Frame) (meth : Method) (c : Code) (Z : State) (EL : List (String × Nat)) (own : String) (vm : Vm) (T : State) (h : Heap) (k n : Nat) : Prop :=
  ∃ locs : List Loc, Stand p l e R (s.setVm vm) m args below meth c T locs k n ∧ T.heap = h ∧ Z.Warmed39 vm ∧ vm.findClass own = some m.cls ∧ (∃ j, s.Since vm j ∧ j ≤ h.size) ∧ CHr Z EL s.vm s.heap vm h ∧ Fr Z.heap.size locs ∧ Ext Z.heap s.heap ∧ Nar s vm
/-- one step of the heap and the tables: what was kept, what may be booked -/
def Stp (Z : State) (EL : List (String × Nat)) (vm : Vm) (h : Heap) (vm' : Vm) (h' : Heap) (ws : List Addr) : Prop := Keep h h' ws ∧ CHr Z EL vm h vm' h'
def Cl (p : Program) (e : Env) (below : List Frame) (G : State → JFrame → Prop) : Prop := ∀ (T T' : State) (g g' : JFrame), (∀ t, Steps p.tables e below (T'.setTop g') t → Steps p.tables e below (T.setTop g) t) → G T' g' → G T g
def Rt (p : Program) (l : Launch) (e : Env) (R : Room) (s : State) (m : MethodId) (args : Array Value) (below : List Frame) (meth : Method) (c : Code) (Z : State) (EL : List (String × Nat)) (own : String) (Q : Option Value → Heap → Prop) (G : State → JFrame → Prop) : Prop :=
  ∀ (vm : Vm) (T : State) (h : Heap) (k n : Nat) (v : Option Value) (g : JFrame), Sit p l e R s m args below meth c Z EL own vm T h k n → k ≤ R.cells → n ≤ R.slots → (meth.sig.returnType = none → v = none) → Q v h →
    (∀ fs, (∀ (f : JFrame) (acts : List Action), f.method = m → f.locked = none → f.entered = [] → (doReturn e (T.setTop f) acts v).1 = T.setFrames fs) → Steps p.tables e below (T.setTop g) (T.setFrames fs)) → G T g
def Con (l : Launch) (Z : State) (EL : List (String × Nat)) (y : MethodName) (bytes : ByteArray) (maxL : Nat) (ret : Option FieldType) (ws : List Jvm.Cond) (rm : Room) (as : Array Value) (h : Heap) (Q : Option Value → Heap → Prop) : Prop :=
  MetFree l y (head1 (Jvm.Cond.code y bytes maxL ret :: ws) rm) (fun a U => a = as ∧ Z.Warmed39 U.vm ∧ U.heap = h ∧ CHv Z EL U.vm h) (fun _ _ _ _ _ => True) (fun _ U o U' => ∃ v L, o = .returned v ∧ (Q v U'.heap ∧ Fr Z.heap.size L) ∧ CHr Z EL U.vm U.heap U'.vm U'.heap ∧ ReturnedEndW U o U' L rm.cells rm.slots)
section L
variable {p : Program} {l : Launch} {e : Env} {R : Room} {s : State} {m : MethodId} {args : Array Value} {below : List Frame} {meth : Method} {c : Code} {Z : State} {EL : List (String × Nat)} {own : String} {a0 : Array Value} {vm vm' vm'' : Vm} {T T' : State} {h h' h'' : Heap} {k n : Nat} {G : State → JFrame → Prop} {ws ws' us : List Addr} {x a b t : Addr}
theorem irem {tb : Tables} [Ours tb] {target : State} {g : JFrame} (h : At T m c below) (hx : tb.exec = Jvm.exec) (hg : g.method = m) {x y : Int32} {rest : List Value} (hd : decode c.code g.pc = .ok (.irem, 1)) (hs : g.stack = .int y :: .int x :: rest) (hy : y ≠ 0) (hr : Steps tb e below (T.setTop { g with pc := g.pc + 1, stack := .int (x % y) :: rest }) target) : Steps tb e below (T.setTop g) target := by
  have q : x - x / y * y = x % y := irem_eq_mod x y
  exact XS.irem h hx hg hd hs hy (by rw [q]; exact hr)
theorem Cl.st (hG : Cl p e below G) {T T' : State} {g g' : JFrame} (f : ∀ t, Steps p.tables e below (T'.setTop g') t → Steps p.tables e below (T.setTop g) t) (q : G T' g') : G T g := hG T T' g g' f q
theorem old_ext {locs : List Loc} (X : Stand p l e R (s.setVm vm) m args below meth c T locs k n) (N : Fr Z.heap.size locs) (O : Ext Z.heap s.heap) : Ext Z.heap T.heap := by
  have hs := X.same
  refine ⟨Nat.le_trans O.1 hs.2.1, fun b cl hcl => ?_⟩
  obtain ⟨c', h1, h2, -, h4⟩ := hs.2.2.2.2.2 b cl (O.2 b cl hcl)
  have hb := (Array.getElem?_eq_some_iff.mp hcl).1
  have hsl : c'.slots = cl.slots := Array.ext_getElem? fun i => h4 i fun hm => absurd (N _ hm) (Nat.not_le.mpr hb)
  have hcc : c' = cl := by rw [h2, hsl]
  rw [← hcc]; exact h1
theorem Sit.here (S : Sit p l e R s m args below meth c Z EL own vm T h k n) : At T m c below := by
  obtain ⟨_, X, -⟩ := S; exact X.here
theorem Sit.warm (S : Sit p l e R s m args below meth c Z EL own vm T h k n) : Z.Warmed39 vm := by
  obtain ⟨_, -, -, q, -⟩ := S; exact q
theorem Sit.ch (S : Sit p l e R s m args below meth c Z EL own vm T h k n) : CHv Z EL vm h := by
  obtain ⟨_, -, -, -, -, -, q, -⟩ := S; exact q.1
theorem Sit.old (S : Sit p l e R s m args below meth c Z EL own vm T h k n) : Ext Z.heap h := by
  obtain ⟨_, X, rfl, -, -, -, -, N, O, -⟩ := S; exact old_ext X N O
theorem Sit.le (S : Sit p l e R s m args below meth c Z EL own vm T h k n) : Z.heap.size ≤ h.size := S.old.1
theorem Sit.mono (S : Sit p l e R s m args below meth c Z EL own vm T h k n) {k' n' : Nat} (hk : k ≤ k') (hn : n ≤ n') : Sit p l e R s m args below meth c Z EL own vm T h k' n' := by
  obtain ⟨locs, X, r⟩ := S
  exact ⟨locs, { X with same := X.same.mono hk hn }, r⟩
theorem Stp.refl (H : CHv Z EL vm h) : Stp Z EL vm h vm h [] := ⟨Keep.refl _ _, CHr.refl H⟩
theorem Stp.trans (A : Stp Z EL vm h vm' h' ws) (B : Stp Z EL vm' h' vm'' h'' ws') (q : ∀ x ∈ ws, x ∈ us) (q' : ∀ x ∈ ws', x ∈ us ∨ h.size ≤ x) : Stp Z EL vm h vm'' h'' us :=
  ⟨Keep.trans ⟨A.1.1, fun x c r z => A.1.2.1 x c r fun y => z (q x y), A.1.2.2⟩ B.1 q', A.2.trans B.2⟩
theorem Stp.mono (A : Stp Z EL vm h vm' h' ws) (q : ∀ x ∈ ws, x ∈ us) : Stp Z EL vm h vm' h' us := ⟨⟨A.1.1, fun x c r z => A.1.2.1 x c r fun y => z (q x y), A.1.2.2⟩, A.2⟩
theorem Stp.of_ext (E : Ext h h') (H : CHv Z EL vm h) : Stp Z EL vm h vm h' [] := ⟨(Keep.refl _ _).ext E, CHr.ext E H⟩
theorem Stp.of_wr {sl : Nat} {v : Value} (W : Wr h h' a sl v) (S : Safe Z EL vm h a) (H : CHv Z EL vm h) : Stp Z EL vm h vm h' [a] := ⟨Keep.of_wr W, CHr.wr W S H⟩
theorem Stp.of_keep (K : Keep h h' ws) (S : ∀ x ∈ ws, Safe Z EL vm h x) (H : CHv Z EL vm h) : Stp Z EL vm h vm h' ws := ⟨K, CHr.keep K S H⟩
theorem Stp.safe (A : Stp Z EL vm h vm' h' ws) (hx : x < h.size) (S : Safe Z EL vm h x) : Safe Z EL vm' h' x := A.2.safe hx S
theorem Stp.fld (A : Stp Z EL vm h vm' h' ws) {C f d : String} {v : Value} (F : Fld Z h a C f d v) (q : a ∉ ws) : Fld Z h' a C f d v := F.keep A.1 q
theorem Stp.exa (A : Stp Z EL vm h vm' h' ws) {C : String} (F : Exa Z h a C) : Exa Z h' a C := F.keep A.1
theorem Stp.arv (A : Stp Z EL vm h vm' h' ws) {kc : ClassId} {ty : FieldType} {z : Int32} {vs : List Value} {d : Value} (F : Arv Z h a kc ty z vs d) (q : a ∉ ws) : Arv Z h' a kc ty z vs d := F.keep A.1 q
theorem keep_mono (K : Keep h h' ws) (q : ∀ x ∈ ws, x ∈ us) : Keep h h' us := ⟨K.1, fun x c r z => K.2.1 x c r fun y => z (q x y), K.2.2⟩
theorem and255 (x : Int32) : ¬ nar .char ((x &&& (255 : Int32)).toUInt32.toUInt16.toUInt32.toInt32) < 0 ∧ ¬ (255 : Int32) < nar .char ((x &&& (255 : Int32)).toUInt32.toUInt16.toUInt32.toInt32) := by
  have e : nar .char ((x &&& (255 : Int32)).toUInt32.toUInt16.toUInt32.toInt32) = x &&& 255 := by
    rw [i2c_mask]; exact i2c_mask x
  rw [e]
  have h := c_and x 255 (by decide)
  have e1 : (255 : Int32).toInt = 255 := rfl
  have e0 : (0 : Int32).toInt = 0 := rfl
  exact ⟨fun q => by rw [Int32.lt_iff_toInt_lt, e0] at q; omega, fun q => by rw [Int32.lt_iff_toInt_lt, e1] at q; omega⟩
/-- a String whose value is still null isn't booked -/
theorem Safe.blank {n : Nat} (hal : Z.vm.Alike vm) (E : Exa Z h x ST) (F : Fld Z h x ST "value" "[B" .null) (wi : (Jvm.Cond.instantiable ST n).before a0 Z = true) : Safe Z EL vm h x := fun B => by
  obtain ⟨p, hp, u, a, hb, q, hqa, hS, hy⟩ := B
  obtain ⟨cS, ⟨⟨s1, s2, s3, ⟨cv, kv, iv, s4, s4'⟩, ⟨cc, kc, ic, s5, s5'⟩, s6, s7, s8, s9, s10, s11, s12, s13, s14, s15, s16⟩, hfS, hcS⟩, ⟨kS, k1, k2, k3⟩, hB, hbyt⟩ := hS
  rcases hy with rfl | rfl
  · obtain ⟨cell, cf, kf, i, f, f1, f2, f3, f4, f5, f6, f7⟩ := F
    obtain ⟨kz, z4⟩ := ff_back (Z := Z) (U := Wst Z vm h) hal s4
    cases f1.symm.trans (show h[q.sa]? = some q.sC from s1)
    rw [show Z.fieldFound? ST "value" "[B" = _ from z4] at f2
    injection f2 with f2
    simp only [Prod.mk.injEq] at f2
    obtain ⟨-, -, -, rfl⟩ := f2
    rw [s8] at f7
    injection f7 with f7
    cases f7
  · obtain ⟨cell, kx, f1, f2, f3, f4, f5⟩ := E
    cases f1.symm.trans (show h[q.sd]? = some q.SA from s10)
    obtain ⟨cI, kI, g1, g2, g3, -⟩ := Cond.instantiable_spec wi
    cases f2.symm.trans g1
    cases f3.symm.trans g2
    obtain ⟨-, k9, hk9, comp, hkind9⟩ := s11
    obtain ⟨k', hk', ek'⟩ := hal.2.2 _ _ g2
    cases hk'.symm.trans (show vm.classes[q.SA.cls]? = some k9 from hk9)
    rw [ek'] at hkind9
    exact absurd (g3.symm.trans hkind9) (by simp)
def Str (Z : State) (h : Heap) (x t : Addr) (cs : List Int32) : Prop := ∃ kb : ClassId, Exa Z h x ST ∧ Fld Z h x ST "value" "[B" (.ref t) ∧ Fld Z h x ST "coder" "B" (.int 0) ∧ Arv Z h t kb .byte (Int32.ofNat cs.length) ((cs.map fun c => c.toInt8.toInt32).map Value.int) (.int 0) ∧ (∀ c ∈ cs, ¬ c < 0 ∧ ¬ (255 : Int32) < c) ∧ cs.length ≤ 4000
theorem Str.exa {cs : List Int32} (F : Str Z h x t cs) : Exa Z h x ST := by obtain ⟨_, q, -⟩ := F; exact q
theorem Str.lt {cs : List Int32} (F : Str Z h x t cs) : x < h.size := F.exa.lt
theorem Str.ltB {cs : List Int32} (F : Str Z h x t cs) : t < h.size := by obtain ⟨_, -, -, -, q, -⟩ := F; exact q.lt
theorem Str.ext {cs : List Int32} (F : Str Z h x t cs) (E : Ext h h') : Str Z h' x t cs := by
  obtain ⟨kb, q1, q2, q3, q4, q5⟩ := F; exact ⟨kb, q1.ext E, q2.ext E, q3.ext E, q4.ext E, q5⟩
theorem Stp.str (A : Stp Z EL vm h vm' h' ws) {cs : List Int32} (F : Str Z h x t cs) (q : x ∉ ws) (r : t ∉ ws) : Str Z h' x t cs := by
  obtain ⟨kb, q1, q2, q3, q4, q5⟩ := F; exact ⟨kb, A.exa q1, A.fld q2 q, A.fld q3 q, A.arv q4 r, q5⟩
theorem Str.neB {cs : List Int32} {C : String} {n : Nat} (F : Str Z h x t cs) (E : Exa Z h a C) (w : (Jvm.Cond.instantiable C n).before a0 Z = true) : t ≠ a := by
  obtain ⟨_, -, -, -, q, -⟩ := F; exact (E.neArv q w).symm
theorem Str.ne {cs : List Int32} {C : String} (F : Str Z h x t cs) (E : Exa Z h a C) (q : C ≠ ST) : x ≠ a := (E.ne F.exa q).symm
theorem arr_neK {k1 k2 : ClassId} {t1 t2 : FieldType} {z1 z2 : Int32} {v1 v2 : List Value} {d1 d2 : Value} (A : Arv Z h a k1 t1 z1 v1 d1) (B : Arv Z h b k2 t2 z2 v2 d2) (q : t1 ≠ t2) : a ≠ b := fun e => by
  subst e
  obtain ⟨c1, ⟨p1, ⟨-, kA, r1, m1, s1⟩, -⟩, -⟩ := A
  obtain ⟨c2, ⟨p2, ⟨-, kB, r2, m2, s2⟩, -⟩, -⟩ := B
  cases p1.symm.trans p2
  cases r1.symm.trans r2
  exact q (by have := s1.symm.trans s2; injection this)
theorem Str.neV {cs : List Int32} {kc : ClassId} {ty : FieldType} {z : Int32} {vs : List Value} {d : Value} (F : Str Z h x t cs) (A : Arv Z h a kc ty z vs d) (q : ty ≠ .byte) : t ≠ a := by
  obtain ⟨_, -, -, -, r, -⟩ := F; exact arr_neK r A (Ne.symm q)
theorem Str.neX {cs : List Int32} {n : Nat} {kc : ClassId} {ty : FieldType} {z : Int32} {vs : List Value} {d : Value} (F : Str Z h x t cs) (A : Arv Z h a kc ty z vs d) (w : (Jvm.Cond.instantiable ST n).before a0 Z = true) : x ≠ a := F.exa.neArv A w
/-- Stepping laws. -/
theorem Sit.getF (hG : Cl p e below G) (S : Sit p l e R s m args below meth c Z EL own vm T h k n) (hx : p.tables.exec = Jvm.exec) {R0 O nm d host : String} {index : Nat} (w : (Jvm.Cond.fieldLink own index R0 nm d).before a0 Z = true ∨ (Jvm.Cond.fieldLinkNest own index R0 nm d host).before a0 Z = true) (via : Via Z R0 O nm d) {v : Value} (F : Fld Z h a O nm d v)
    {g : JFrame} (hg : g.method = m) {rest : List Value} (hs : g.stack = .ref a :: rest) (hd : decode c.code g.pc = .ok (.getfield index, 3)) (K : ∀ T', Sit p l e R s m args below meth c Z EL own vm T' h k n → G T' { g with pc := g.pc + 3, stack := v :: rest }) : G T g := by
  obtain ⟨locs, X, eT, hZ, hown, r⟩ := S
  obtain ⟨T', X', e', st⟩ := RoadKit.getF X hx hZ hown w via eT F hg hs hd
  exact hG.st st (K T' ⟨locs, X', e', hZ, hown, r⟩)
theorem Sit.getS (hG : Cl p e below G) (S : Sit p l e R s m args below meth c Z EL own vm T h k n) (hx : p.tables.exec = Jvm.exec) {R0 O nm d host : String} {index : Nat} (w : (Jvm.Cond.fieldLink own index R0 nm d).before a0 Z = true ∨ (Jvm.Cond.fieldLinkNest own index R0 nm d host).before a0 Z = true) (via : Via Z R0 O nm d) {v : Value} (F : Sta Z h O nm d v)
    {g : JFrame} (hg : g.method = m) (hd : decode c.code g.pc = .ok (.getstatic index, 3)) (K : ∀ T', Sit p l e R s m args below meth c Z EL own vm T' h k n → G T' { g with pc := g.pc + 3, stack := v :: g.stack }) : G T g := by
  obtain ⟨locs, X, eT, hZ, hown, r⟩ := S
  obtain ⟨T', X', e', st⟩ := RoadKit.getS2 X hx hZ hown w via eT F hg hd
  exact hG.st st (K T' ⟨locs, X', e', hZ, hown, r⟩)
theorem fr_one {locs : List Loc} {sl : Nat} (N : Fr Z.heap.size locs) (ga : Z.heap.size ≤ a) : Fr Z.heap.size (locs ++ [⟨a, sl⟩]) := N.app fun y hy => by cases List.mem_singleton.mp hy; exact ga
theorem Sit.putF (hG : Cl p e below G) (S : Sit p l e R s m args below meth c Z EL own vm T h k n) (hx : p.tables.exec = Jvm.exec) {R0 O nm d host C : String} {index kk : Nat} {ty : FieldType} (w : (Jvm.Cond.fieldLink own index R0 nm d).before a0 Z = true ∨ (Jvm.Cond.fieldLinkNest own index R0 nm d host).before a0 Z = true) (via : Via Z R0 O nm d) {v old : Value} (F : Fld Z h a O nm d old) (E : Exa Z h a C)
    (L : (Jvm.Cond.lays C O nm d).before a0 Z = true ∨ ((Jvm.Cond.laysFinal C O nm d).before a0 Z = true ∧ own = O ∧ meth.name = "<init>")) (wi : (Jvm.Cond.instantiable C kk).before a0 Z = true) (hty : parseFieldDescriptor d = some ty) (hn : narrow ty v = v) (hf : fits ty v = true) (ga : Z.heap.size ≤ a) (sf : Safe Z EL vm h a)
    {g : JFrame} (hg : g.method = m) {rest : List Value} (hs : g.stack = v :: .ref a :: rest) (hd : decode c.code g.pc = .ok (.putfield index, 3)) (K : ∀ T' h', Sit p l e R s m args below meth c Z EL own vm T' h' k n → Stp Z EL vm h vm h' [a] → Wr h h' a (RoadKit.slotOf Z O nm d) v → Fld Z h' a O nm d v → G T' { g with pc := g.pc + 3, stack := rest }) : G T g := by
  obtain ⟨locs, X, eT, hZ, hown, ⟨j, hS, hj⟩, C0, N, r⟩ := S
  obtain ⟨T', h', X', e', W, st⟩ := RoadKit.putF X hx hZ hown w via eT F E L wi hty hn hf hg hs hd
  have J := Stp.of_wr W sf C0.1
  exact hG.st st (K T' h' ⟨_, X', e', hZ, hown, ⟨j, hS, Nat.le_trans hj J.1.1⟩, C0.trans J.2, fr_one N ga, r⟩ J W (F.same W))
theorem Sit.newO (hG : Cl p e below G) (S : Sit p l e R s m args below meth c Z EL own vm T h k n) (hx : p.tables.exec = Jvm.exec) {C : String} {index nn : Nat} (w : (Jvm.Cond.classLink own index C).before a0 Z = true) (wi : (Jvm.Cond.instantiable C nn).before a0 Z = true) (wz : (Jvm.Cond.initialized C).before a0 Z = true)
    {g : JFrame} (hg : g.method = m) (hd : decode c.code g.pc = .ok (.new index, 3)) (hc : k + 1 ≤ R.cells) (hl : n + nn ≤ R.slots)
    (K : ∀ T' h' x, x = h.size → Sit p l e R s m args below meth c Z EL own vm T' h' (k + 1) (n + nn) → Stp Z EL vm h vm h' [] → Safe Z EL vm h' x → Exa Z h' x C → (∀ {O nm d : String} {ty : FieldType}, Laid Z a0 C O nm d → parseFieldDescriptor d = some ty → Fld Z h' x O nm d (defaultValue ty)) → G T' { g with pc := g.pc + 3, stack := .ref x :: g.stack }) : G T g := by
  obtain ⟨locs, X, eT, hZ, hown, ⟨j, hS, hj⟩, C0, r⟩ := S
  obtain ⟨T', h', X', e', E, A, D, -, st⟩ := RoadKit.newO X hx hZ hown w wi wz eT hg hd hc hl
  exact hG.st st (K T' h' _ rfl ⟨locs, X', e', hZ, hown, ⟨j, hS, Nat.le_trans hj E.1⟩, C0.trans (CHr.ext E C0.1), r⟩ (Stp.of_ext E C0.1) (Safe.ext E C0.1 (Safe.new (Nat.le_refl _))) A D)
theorem Sit.newP (hG : Cl p e below G) (S : Sit p l e R s m args below meth c Z EL own vm T h k n) (hx : p.tables.exec = Jvm.exec) {aty : ArrayType} (w : (Jvm.Cond.arrayClass (newarray.typeOf aty)).before a0 Z = true) {g : JFrame} (hg : g.method = m) (hd : decode c.code g.pc = .ok (.newarray aty, 2)) {z : Int32} {rest : List Value} (hs : g.stack = .int z :: rest)
    (hz : ¬ z < 0) {cap : Nat} (hcap : z.toNatClampNeg ≤ cap) (hb : cap * 8 ≤ 536870912) (hc : k + 1 ≤ R.cells) (hl : n + cap ≤ R.slots)
    (K : ∀ T' h' x cA, x = h.size → Sit p l e R s m args below meth c Z EL own vm T' h' (k + 1) (n + cap) → Stp Z EL vm h vm h' [] → Safe Z EL vm h' x → Arv Z h' x cA (newarray.typeOf aty) z (List.replicate z.toNatClampNeg (defaultValue (newarray.typeOf aty))) (defaultValue (newarray.typeOf aty)) → G T' { g with pc := g.pc + 2, stack := .ref x :: rest }) : G T g := by
  obtain ⟨locs, X, eT, hZ, hown, ⟨j, hS, hj⟩, C0, r⟩ := S
  obtain ⟨T', h', cA, X', e', E, A, st⟩ := RoadKit.newP X hx hZ w eT hg hd hs hz hcap hb hc hl
  exact hG.st st (K T' h' _ cA rfl ⟨locs, X', e', hZ, hown, ⟨j, hS, Nat.le_trans hj E.1⟩, C0.trans (CHr.ext E C0.1), r⟩ (Stp.of_ext E C0.1) (Safe.ext E C0.1 (Safe.new (Nat.le_refl _))) ((Arv.new A hz).pad (pad_rep [] _ _)))
theorem Sit.stC (hG : Cl p e below G) (S : Sit p l e R s m args below meth c Z EL own vm T h k n) (hx : p.tables.exec = Jvm.exec) {kc : ClassId} {z : Int32} {vs : List Value} {d : Value} (V : Arv Z h a kc .char z vs d) (ga : Z.heap.size ≤ a) {j y : Int32} (hj : ¬ j < 0 ∧ j < z) (i : Nat) (hi : j.toNatClampNeg = i) (hil : i < vs.length)
    {g : JFrame} (hg : g.method = m) {rest : List Value} (hs : g.stack = .int y :: .int j :: .ref a :: rest) (hd : decode c.code g.pc = .ok (.castore, 1)) (K : ∀ T' h', Sit p l e R s m args below meth c Z EL own vm T' h' k n → Stp Z EL vm h vm h' [a] → Arv Z h' a kc .char z (vs.set i (.int (nar .char y))) d → G T' { g with pc := g.pc + 1, stack := rest }) : G T g := by
  obtain ⟨locs, X, eT, hZ, hown, ⟨jj, hS, hjj⟩, C0, N, r⟩ := S
  obtain ⟨cl, A, q1, q2, q3, q4, q5⟩ := V
  obtain ⟨T', h', X', e', W, st⟩ := RoadKit.stC X hx hZ eT A (inb_of q2 hj) hg hs hd
  have J := Stp.of_wr W (Safe.arr hZ.alike A (by decide)) C0.1
  exact hG.st st (K T' h' ⟨_, X', e', hZ, hown, ⟨jj, hS, Nat.le_trans hjj J.1.1⟩, C0.trans J.2, fr_one N ga, r⟩ J (Arv.set A q1 q2 q3 q4 q5 (fits_nar_char _) W i hi hil))
theorem Sit.stB (hG : Cl p e below G) (S : Sit p l e R s m args below meth c Z EL own vm T h k n) (hx : p.tables.exec = Jvm.exec) {kc : ClassId} {z : Int32} {vs : List Value} {d : Value} (V : Arv Z h a kc .byte z vs d) (ga : Z.heap.size ≤ a) (sf : Safe Z EL vm h a) {j y : Int32} (hj : ¬ j < 0 ∧ j < z) (i : Nat) (hi : j.toNatClampNeg = i) (hil : i < vs.length)
    {g : JFrame} (hg : g.method = m) {rest : List Value} (hs : g.stack = .int y :: .int j :: .ref a :: rest) (hd : decode c.code g.pc = .ok (.bastore, 1)) (K : ∀ T' h', Sit p l e R s m args below meth c Z EL own vm T' h' k n → Stp Z EL vm h vm h' [a] → Arv Z h' a kc .byte z (vs.set i (.int (nar .byte y))) d → G T' { g with pc := g.pc + 1, stack := rest }) : G T g := by
  obtain ⟨locs, X, eT, hZ, hown, ⟨jj, hS, hjj⟩, C0, N, r⟩ := S
  obtain ⟨cl, A, q1, q2, q3, q4, q5⟩ := V
  obtain ⟨T', h', X', e', W, st⟩ := RoadKit.stB X hx hZ eT A (inb_of q2 hj) hg hs hd
  have J := Stp.of_wr W sf C0.1
  exact hG.st st (K T' h' ⟨_, X', e', hZ, hown, ⟨jj, hS, Nat.le_trans hjj J.1.1⟩, C0.trans J.2, fr_one N ga, r⟩ J (Arv.set A q1 q2 q3 q4 q5 (fits_nar_byte _) W i hi hil))
theorem Sit.caload (hG : Cl p e below G) (S : Sit p l e R s m args below meth c Z EL own vm T h k n) (hx : p.tables.exec = Jvm.exec) {kc : ClassId} {z : Int32} {vs : List Value} {d : Value} (V : Arv Z h a kc .char z vs d) {j : Int32} (hj : ¬ j < 0 ∧ j < z) {v : Value} (hv : vs.getD j.toNatClampNeg d = v)
    {g : JFrame} (hg : g.method = m) {rest : List Value} (hs : g.stack = .int j :: .ref a :: rest) (hd : decode c.code g.pc = .ok (.caload, 1)) (q : G T { g with pc := g.pc + 1, stack := v :: rest }) : G T g := by
  obtain ⟨locs, X, eT, hZ, hown, r⟩ := S
  obtain ⟨cl, A, q1, q2, q3, q4, q5⟩ := V
  exact hG.st (fun t q => X.caload hx (by rw [eT]; exact A.1) (State.isArrayOf_alike hZ.alike A.2.1) A.2.2 (inb_of q2 hj) (q4.at (inb_of q2 hj) hv) hg hs hd t q) q
theorem Sit.aaload (hG : Cl p e below G) (S : Sit p l e R s m args below meth c Z EL own vm T h k n) (hx : p.tables.exec = Jvm.exec) {kc : ClassId} {ty : FieldType} {z : Int32} {vs : List Value} {d : Value} (V : Arv Z h a kc ty z vs d) (hty : ty.isReference = true) {j : Int32} (hj : ¬ j < 0 ∧ j < z) {v : Value} (hv : vs.getD j.toNatClampNeg d = v)
    {g : JFrame} (hg : g.method = m) {rest : List Value} (hs : g.stack = .int j :: .ref a :: rest) (hd : decode c.code g.pc = .ok (.aaload, 1)) (q : G T { g with pc := g.pc + 1, stack := v :: rest }) : G T g := by
  obtain ⟨locs, X, eT, hZ, hown, r⟩ := S
  obtain ⟨cl, A, q1, q2, q3, q4, q5⟩ := V
  exact hG.st (fun t q => X.aaload hx (by rw [eT]; exact A.1) (State.isArrayOf_alike hZ.alike A.2.1) hty A.2.2 (inb_of q2 hj) (q4.at (inb_of q2 hj) hv) hg hs hd t q) q
theorem Sit.arraylength (hG : Cl p e below G) (S : Sit p l e R s m args below meth c Z EL own vm T h k n) (hx : p.tables.exec = Jvm.exec) {kc : ClassId} {ty : FieldType} {z : Int32} {vs : List Value} {d : Value} (V : Arv Z h a kc ty z vs d)
    {g : JFrame} (hg : g.method = m) {rest : List Value} (hs : g.stack = .ref a :: rest) (hd : decode c.code g.pc = .ok (.arraylength, 1)) (q : G T { g with pc := g.pc + 1, stack := .int z :: rest }) : G T g := by
  obtain ⟨locs, X, eT, hZ, hown, r⟩ := S
  obtain ⟨cl, A, q1, q2, q3, q4, q5⟩ := V
  exact hG.st (fun t q => X.arraylength hx (by rw [eT]; exact A.1) (State.isArrayOf_alike hZ.alike A.2.1) hg hs hd t (by rw [len_of q2 q3]; exact q)) q
theorem Sit.acmp (hG : Cl p e below G) (S : Sit p l e R s m args below meth c Z EL own vm T h k n) (hx : p.tables.exec = Jvm.exec) {g : JFrame} (hg : g.method = m) {cd : ACond} {v w : Value} (h1 : v.isRef = true) (h2 : w.isRef = true) {rest : List Value} {o : Int} {pc0 pc' : Nat} {same : Bool} (hpc : g.pc = pc0)
    (hd : decode c.code g.pc = .ok (.if_acmp cd o, 3)) (hs : g.stack = w :: v :: rest) (hq : decide (v = w) = same) (ho : 0 ≤ (pc0 : Int) + o) (hp : pc' = if acV cd same = true then ((pc0 : Int) + o).toNat else pc0 + 3) (q : G T { g with pc := pc', stack := rest }) : G T g := by
  obtain ⟨_, X, -⟩ := S
  exact hG.st (fun t r => RoadKit.acmp X hx hg h1 h2 hpc hd hs hq ho hp r) q
theorem Sit.instNull (hG : Cl p e below G) (S : Sit p l e R s m args below meth c Z EL own vm T h k n) (hx : p.tables.exec = Jvm.exec) {g : JFrame} (hg : g.method = m) {rest : List Value} (hs : g.stack = .null :: rest) {i : Nat} (hd : decode c.code g.pc = .ok (.instanceof i, 3)) (q : G T { g with pc := g.pc + 3, stack := .int 0 :: rest }) : G T g := by
  obtain ⟨_, X, -⟩ := S
  exact hG.st (fun t r => X.instanceofNull hx hg hs hd t r) q
theorem Sit.castNull (hG : Cl p e below G) (S : Sit p l e R s m args below meth c Z EL own vm T h k n) (hx : p.tables.exec = Jvm.exec) {g : JFrame} (hg : g.method = m) {rest : List Value} (hs : g.stack = .null :: rest) {i : Nat} (hd : decode c.code g.pc = .ok (.checkcast i, 3)) (q : G T { g with pc := g.pc + 3 }) : G T g := by
  obtain ⟨_, X, -⟩ := S
  exact hG.st (fun t r => X.checkcastNull hx hg hs hd t r) q
theorem Sit.ldcI (hG : Cl p e below G) (S : Sit p l e R s m args below meth c Z EL own vm T h k n) (hx : p.tables.exec = Jvm.exec) {index : Nat} {z : Int32} (w : (Jvm.Cond.constant own index z).before a0 Z = true) {g : JFrame} (hg : g.method = m) (hd : decode c.code g.pc = .ok (.ldc index, 2)) (q : G T { g with pc := g.pc + 2, stack := .int z :: g.stack }) : G T g := by
  obtain ⟨_, X, _, hZ, hown, -⟩ := S
  exact hG.st (fun t r => X.ldcInt hx hown (mvT hZ w) hg hd t r) q
theorem Sit.initO (hG : Cl p e below G) (S : Sit p l e R s m args below meth c Z EL own vm T h k n) (hx : p.tables.exec = Jvm.exec) {idx : Nat} (w1 : (Jvm.Cond.methodLink own idx Lib.objectInit).before a0 Z = true) (w2 : (Jvm.Cond.instanceMethod Lib.objectInit).before a0 Z = true) (w3 : (Jvm.Cond.code Lib.objectInit ⟨#[0xb1]⟩ 1 none).before a0 Z = true)
    {g : JFrame} (hg : g.method = m) (hsize : g.locals.size = c.maxLocals) {rest : List Value} (hs : g.stack = .ref a :: rest) (hd : decode c.code g.pc = .ok (.invokespecial idx, 3)) (hf : 1 ≤ R.frames) {W : Nat} (hW : 2 * g.monitorRoom + (rest.map fun v => v.category).sum ≤ W) (hl : W + 12 ≤ R.locals)
    (K : ∀ T', Sit p l e R s m args below meth c Z EL own vm T' h k n → G T' { g with pc := g.pc + 3, stack := rest }) : G T g := by
  obtain ⟨locs, X, eT, hZ, hown, r⟩ := S
  obtain ⟨T', X', e', st⟩ := RoadKit.initO X hx hZ hown w1 w2 w3 eT hg hsize hs hd hf hW hl
  exact hG.st st (K T' ⟨locs, X', e', hZ, hown, r⟩)
theorem Sit.castY (hG : Cl p e below G) (S : Sit p l e R s m args below meth c Z EL own vm T h k n) (hx : p.tables.exec = Jvm.exec) {K0 : String} {index : Nat} (w : (Jvm.Cond.classLink own index K0).before a0 Z = true) (F : Ins Z h a K0 true)
    {g : JFrame} (hg : g.method = m) {rest : List Value} (hs : g.stack = .ref a :: rest) (hd : decode c.code g.pc = .ok (.checkcast index, 3)) (K : ∀ T', Sit p l e R s m args below meth c Z EL own vm T' h k n → G T' { g with pc := g.pc + 3 }) : G T g := by
  obtain ⟨locs, X, eT, hZ, hown, r⟩ := S
  obtain ⟨T', X', e', st⟩ := RoadKit.castY X hx hZ hown w eT F hg hs hd
  exact hG.st st (K T' ⟨locs, X', e', hZ, hown, r⟩)
theorem Sit.cloneA (hG : Cl p e below G) (S : Sit p l e R s m args below meth c Z EL own vm T h k n) (hx : p.tables.exec = Jvm.exec) {ad : String} {index : Nat}
    (w1 : (Jvm.Cond.methodLink own index ⟨ad, "clone", "()Ljava/lang/Object;"⟩).before a0 Z = true) (w2 : (Jvm.Cond.sameMethod ad "java/lang/Object" "clone" "()Ljava/lang/Object;").before a0 Z = true) (w3 : (Jvm.Cond.native ⟨"java/lang/Object", "clone", "()Ljava/lang/Object;"⟩).before a0 Z = true)
    (w4 : (Jvm.Cond.instanceMethod ⟨"java/lang/Object", "clone", "()Ljava/lang/Object;"⟩).before a0 Z = true) (w5 : (Jvm.Cond.selects ad ⟨ad, "clone", "()Ljava/lang/Object;"⟩ ⟨"java/lang/Object", "clone", "()Ljava/lang/Object;"⟩).before a0 Z = true) (w6 : (Jvm.Cond.castable ad "java/lang/Cloneable").before a0 Z = true)
    {kc : ClassId} {ty : FieldType} {z : Int32} {vs : List Value} {d : Value} (F : Arv Z h a kc ty z vs d) (E : Exa Z h a ad) {g : JFrame} (hg : g.method = m) (hsize : g.locals.size = c.maxLocals) {rest : List Value} (hst : g.stack = .ref a :: rest) (hd : decode c.code g.pc = .ok (.invokevirtual index, 3))
    (hf : 1 ≤ R.frames) {W cap : Nat} (hW : 2 * g.monitorRoom + (rest.map fun v => v.category).sum ≤ W) (hl : W + 14 ≤ R.locals) (hcap : z.toNatClampNeg ≤ cap) (hc : k + 1 ≤ R.cells) (hsl : n + cap ≤ R.slots)
    (K : ∀ T' h' x, x = h.size → Sit p l e R s m args below meth c Z EL own vm T' h' (k + 1) (n + cap) → Stp Z EL vm h vm h' [] → Arv Z h' x kc ty z vs d → Exa Z h' x ad → G T' { g with pc := g.pc + 3, stack := .ref x :: rest }) : G T g := by
  obtain ⟨locs, X, eT, hZ, hown, ⟨j, hS, hj⟩, C0, r⟩ := S
  obtain ⟨T', h', X', e', E', A, D, st⟩ := RoadKit.cloneH X hx hZ hown w1 w2 w3 w4 w5 w6 eT F.arh E hg hsize hst hd hf hW hl hcap hc hsl
  exact hG.st st (K T' h' _ rfl ⟨locs, X', e', hZ, hown, ⟨j, hS, Nat.le_trans hj E'.1⟩, C0.trans (CHr.ext E' C0.1), r⟩ (Stp.of_ext E' C0.1) A D)
theorem Sit.ldc (hG : Cl p e below G) (S : Sit p l e R s m args below meth c Z EL own vm T h k n) (hx : p.tables.exec = Jvm.exec) (hEL : EW Z a0 EL) {text : String} {index : Nat} (w : (Jvm.Cond.stringLink own index text).before a0 Z = true) (wS : ∀ a ∈ Bundle.stringAtoms, a.before a0 Z = true) (hmem : (own, index) ∈ EL) {cs : List Int32}
    (ht : (∀ c ∈ text.toList, c.toNat < 256) ∧ text.toList.map (fun c => Value.int (Jvm.Lit.byteI c.toNat.toUInt16)) = (cs.map fun c => c.toInt8.toInt32).map Value.int) (hcs : ∀ c ∈ cs, ¬ c < 0 ∧ ¬ (255 : Int32) < c) (hlen : cs.length ≤ 4000)
    {g : JFrame} (hg : g.method = m) (hd : decode c.code g.pc = .ok (.ldc index, 2)) {nn : Nat} (hn : 4 * text.toList.length ≤ nn) (hbig : nn ≤ 536870912) (hc : k + 2 ≤ R.cells) (hl' : n + (nn + 4) ≤ R.slots)
    (K : ∀ vm' T' h' a b, Sit p l e R s m args below meth c Z EL own vm' T' h' (k + 2) (n + (nn + 4)) → Stp Z EL vm h vm' h' [] → Str Z h' a b cs → (∀ x, Safe Z EL vm' h' x → x ≠ a ∧ x ≠ b) → G T' { g with pc := g.pc + 2, stack := .ref a :: g.stack }) : G T g := by
  obtain ⟨locs, X, eT, hZ, hown, ⟨j, hS, hj⟩, C0, N, O, r⟩ := S
  have hz : ¬ Int32.ofNat cs.length < 0 := by rw [Int32.lt_iff_toInt_lt, Int32.toInt_ofNat_small (by omega)]; exact Int.not_lt.mpr (Int.natCast_nonneg _)
  have hl : (Int32.ofNat cs.length).toNatClampNeg = ((cs.map fun c => c.toInt8.toInt32).map Value.int).length := by simp [Int32.toNatClampNeg, Int32.toInt_ofNat_small (show cs.length < 2 ^ 31 by omega)]
  obtain ⟨a, T', h', k1, b, kb, X', e', E, hS', hk', hZ', hown', E1, F1, F2, V1, -, -, C1, -, sf, st⟩ := ldcCH X hx hZ hown w wS eT hS hj hEL hmem C0.1 ht hz hl hg hd hn hbig hc hl'
  exact hG.st st (K _ T' h' a b ⟨locs, X', e', hZ', hown', ⟨k1, hS', hk'⟩, C0.trans C1, N, O, r⟩ ⟨(Keep.refl _ _).ext E, C1⟩ ⟨kb, E1, F2, F1, V1, hcs, hlen⟩ sf)
theorem afterS {locs L : List Loc} {U : State} {k' n' : Nat} (eT : T.heap = h) (hZ : Z.Warmed39 vm) (hown : vm.findClass own = some m.cls) (hS : ∃ j, s.Since vm j ∧ j ≤ h.size) (C : CHr Z EL s.vm s.heap vm h) (N : Fr Z.heap.size locs) (O : Ext Z.heap s.heap)
    (X' : Stand p l e R ((s.setVm vm).setVm U.vm) m args below meth c U (locs ++ L) k' n') (h2 : (s.setVm vm).Since U.vm U.heap.size) (g2 : T.heap.size ≤ U.heap.size) (N' : Fr Z.heap.size L) (C' : CHr Z EL vm h U.vm U.heap) : Sit p l e R s m args below meth c Z EL own U.vm U U.heap k' n' := by
  obtain ⟨j, hS, hj⟩ := hS
  obtain ⟨q1, q2, q3, q4⟩ := rebS (Z := Z) (own := own) hS hj X' h2 (eT ▸ g2) hZ hown
  exact ⟨_, q1, rfl, q3, q4, ⟨_, q2, Nat.le_refl _⟩, C.trans C', N.app N', O, trivial⟩
/-- calls by contract -/
theorem Sit.callS (hG : Cl p e below G) (S : Sit p l e R s m args below meth c Z EL own vm T h k n) (hx : p.tables.exec = Jvm.exec) (hEL : EW Z a0 EL) {index : Nat} {y : MethodName} {bytes : ByteArray} {maxL : Nat} {ret : Option FieldType} {rm : Room} {as : List Value} {Q : Option Value → Heap → Prop}
    (wl : (Jvm.Cond.methodLink own index y).before a0 Z = true) (wt : (Jvm.Cond.static y).before a0 Z = true) (wz : (Jvm.Cond.initialized y.cls).before a0 Z = true) (wc : (Jvm.Cond.code y bytes maxL ret).before a0 Z = true) (hy : y.cls ≠ "java/lang/invoke/MethodHandle" ∧ y.cls ≠ "java/lang/invoke/VarHandle")
    (hM : Con l Z EL y bytes maxL ret [] rm as.toArray h Q) {ps : List FieldType} {r : Option FieldType} (hd0 : parseMethodDescriptor y.desc = some ⟨ps, r⟩) (hlen : as.length = ps.length)
    {g : JFrame} (hg : g.method = m) (hsize : g.locals.size = c.maxLocals) {rest : List Value} (hs : g.stack = as.reverse ++ rest) {W : Nat} (hW : 2 * g.monitorRoom + (rest.map fun v => v.category).sum ≤ W) (hd : decode c.code g.pc = .ok (.invokestatic index, 3))
    (hf : rm.frames + 1 ≤ R.frames) (hl : W + (maxL + 11) + rm.locals ≤ R.locals) (hc : k + rm.cells ≤ R.cells) (hsl : n + rm.slots ≤ R.slots)
    (K : ∀ v vm' T' h', Sit p l e R s m args below meth c Z EL own vm' T' h' (k + rm.cells) (n + rm.slots) → CHr Z EL vm h vm' h' → Q v h' → G T' { g with pc := g.pc + 3, stack := v.toList ++ rest }) : G T g := by
  obtain ⟨locs, X, eT, hZ, hown, hS, C, N, O, hn⟩ := S
  obtain ⟨v, vm1, ⟨U, L', k', n'⟩, -, X', h2, g2, ⟨L, ⟨hQ, hF⟩, q1, q2, q3, hC⟩, st⟩ := callSS X hx hown (mvT hZ wl) (mvT hZ wt) (mvT hZ wz) (mvT hZ wc) hy (backOfSH (W := W) (Q := fun v h L => Q v h ∧ Fr Z.heap.size L) hM hZ wc wz hf hl hEL C.1) hg hsize (lenOf hd0 hlen) hs hW hd (fun _ _ => ⟨rfl, eT, hc, hsl⟩)
  dsimp only [Pt.U, Pt.locs, Pt.cells, Pt.slots] at X' h2 g2 hQ q1 q2 q3 hC st
  subst q1 q2 q3
  exact hG.st (fun t q => st.trans q) (K v U.vm U U.heap (afterS eT hZ hown hS C N O X' h2 g2 hF hC) hC hQ)
theorem Sit.callV (hG : Cl p e below G) (S : Sit p l e R s m args below meth c Z EL own vm T h k n) (hx : p.tables.exec = Jvm.exec) (hEL : EW Z a0 EL) {C : String} {index : Nat} {y : MethodName} {bytes : ByteArray} {maxL : Nat} {ret : Option FieldType} {rm : Room} {as : List Value} {Q : Option Value → Heap → Prop}
    (wl : (Jvm.Cond.methodLink own index y).before a0 Z = true) (wd : (Jvm.Cond.declares y).before a0 Z = true) (wsl : (Jvm.Cond.selects C y y).before a0 Z = true) (wim : (Jvm.Cond.instanceMethod y).before a0 Z = true) (wz : (Jvm.Cond.initialized y.cls).before a0 Z = true) (wc : (Jvm.Cond.code y bytes maxL ret).before a0 Z = true) (hy : y.cls ≠ "java/lang/invoke/MethodHandle" ∧ y.cls ≠ "java/lang/invoke/VarHandle")
    (E : Exa Z h b C) (hM : Con l Z EL y bytes maxL ret [] rm (.ref b :: as).toArray h Q) {ps : List FieldType} {r : Option FieldType} (hd0 : parseMethodDescriptor y.desc = some ⟨ps, r⟩) (hlen : as.length = ps.length)
    {g : JFrame} (hg : g.method = m) (hsize : g.locals.size = c.maxLocals) {rest : List Value} (hs : g.stack = as.reverse ++ .ref b :: rest) {W : Nat} (hW : 2 * g.monitorRoom + (rest.map fun v => v.category).sum ≤ W) (hd : decode c.code g.pc = .ok (.invokevirtual index, 3))
    (hf : rm.frames + 1 ≤ R.frames) (hl : W + (maxL + 11) + rm.locals ≤ R.locals) (hc : k + rm.cells ≤ R.cells) (hsl : n + rm.slots ≤ R.slots)
    (K : ∀ v vm' T' h', Sit p l e R s m args below meth c Z EL own vm' T' h' (k + rm.cells) (n + rm.slots) → CHr Z EL vm h vm' h' → Q v h' → G T' { g with pc := g.pc + 3, stack := v.toList ++ rest }) : G T g := by
  obtain ⟨locs, X, eT, hZ, hown, hS, C, N, O, hn⟩ := S
  obtain ⟨cB, kB, i1, -, i2⟩ := isOf (s := s.setVm vm) hZ eT E
  obtain ⟨v, vm1, ⟨U, L', k', n'⟩, -, X', h2, g2, ⟨L, ⟨hQ, hF⟩, q1, q2, q3, hC⟩, st⟩ := X.virtualBackS hx (y := y) (z := y) hown (mvT hZ wl) (mvT hZ wd) (notFace_of_selects (args := #[]) (mvT hZ wsl)) (mvT hZ wsl) (mvT hZ wim) hy (backOfSH (W := W) (Q := fun v h L => Q v h ∧ Fr Z.heap.size L) hM hZ wc wz hf hl hEL C.1) i1 i2 hg hsize (Steps.refl _) (argsL := as) (lenOf hd0 hlen) hs hW hd (fun _ _ => ⟨rfl, eT, hc, hsl⟩)
  dsimp only [Pt.U, Pt.locs, Pt.cells, Pt.slots] at X' h2 g2 hQ q1 q2 q3 hC st
  subst q1 q2 q3
  exact hG.st (fun t q => st.trans q) (K v U.vm U U.heap (afterS eT hZ hown hS C N O X' h2 g2 hF hC) hC hQ)
theorem Sit.callI (hG : Cl p e below G) (S : Sit p l e R s m args below meth c Z EL own vm T h k n) (hx : p.tables.exec = Jvm.exec) (hEL : EW Z a0 EL) {index : Nat} {y : MethodName} (hy1 : y.name = "<init>") {bytes : ByteArray} {maxL : Nat} {rm : Room} {as : List Value} {Q : Option Value → Heap → Prop}
    (wl : (Jvm.Cond.methodLink own index y).before a0 Z = true) (wim : (Jvm.Cond.instanceMethod y).before a0 Z = true) (wz : (Jvm.Cond.initialized y.cls).before a0 Z = true) (wc : (Jvm.Cond.code y bytes maxL none).before a0 Z = true) (hy : y.cls ≠ "java/lang/invoke/MethodHandle" ∧ y.cls ≠ "java/lang/invoke/VarHandle")
    (hM : Con l Z EL y bytes maxL none [] rm (.ref b :: as).toArray h Q) {ps : List FieldType} {r : Option FieldType} (hd0 : parseMethodDescriptor y.desc = some ⟨ps, r⟩) (hlen : as.length = ps.length)
    {g : JFrame} (hg : g.method = m) (hsize : g.locals.size = c.maxLocals) {rest : List Value} (hs : g.stack = as.reverse ++ .ref b :: rest) {W : Nat} (hW : 2 * g.monitorRoom + (rest.map fun v => v.category).sum ≤ W) (hd : decode c.code g.pc = .ok (.invokespecial index, 3))
    (hf : rm.frames + 1 ≤ R.frames) (hl : W + (maxL + 11) + rm.locals ≤ R.locals) (hc : k + rm.cells ≤ R.cells) (hsl : n + rm.slots ≤ R.slots)
    (K : ∀ v vm' T' h', Sit p l e R s m args below meth c Z EL own vm' T' h' (k + rm.cells) (n + rm.slots) → CHr Z EL vm h vm' h' → Q v h' → G T' { g with pc := g.pc + 3, stack := v.toList ++ rest }) : G T g := by
  obtain ⟨locs, X, eT, hZ, hown, hS, C, N, O, hn⟩ := S
  obtain ⟨v, vm1, ⟨U, L', k', n'⟩, -, X', h2, g2, ⟨L, ⟨hQ, hF⟩, q1, q2, q3, hC⟩, st⟩ := X.specialBackS hx (y := y) hy1 hown (mvT hZ wl) (mvT hZ wim) (mvT hZ wc) hy (backOfSH (W := W) (Q := fun v h L => Q v h ∧ Fr Z.heap.size L) hM hZ wc wz hf hl hEL C.1) hg hsize (Steps.refl _) (a := b) (argsL := as) (lenOf hd0 hlen) hs hW hd (fun _ _ => ⟨rfl, eT, hc, hsl⟩)
  dsimp only [Pt.U, Pt.locs, Pt.cells, Pt.slots] at X' h2 g2 hQ q1 q2 q3 hC st
  subst q1 q2 q3
  exact hG.st (fun t q => st.trans q) (K v U.vm U U.heap (afterS eT hZ hown hS C N O X' h2 g2 hF hC) hC hQ)
theorem Sit.retN {t : FieldType} {Q : Option Value → Heap → Prop} (hR : Rt p l e R s m args below meth c Z EL own Q G) (S : Sit p l e R s m args below meth c Z EL own vm T h k n) (hx : p.tables.exec = Jvm.exec) (hret : meth.sig.returnType = some t) (ht : t = .boolean ∨ t = .byte ∨ t = .char ∨ t = .short) {pc : Nat} {Ls : Array Slot} {z : Int32} {rest : List Value} (hd : decode c.code pc = .ok (.ireturn, 1)) (hk : k ≤ R.cells) (hn : n ≤ R.slots) (hQ : Q (some (.int (nar t z))) h) : G T (mkF m pc Ls (.int z :: rest)) :=
  hR vm T h k n _ _ S hk hn (fun q => by rw [hret] at q; cases q) hQ (fun fs hr => by obtain ⟨_, X, -⟩ := S; exact RoadKit.retN X hx hret ht hd hr)
theorem Sit.retO {t : FieldType} {i : Instr} {Q : Option Value → Heap → Prop} (hR : Rt p l e R s m args below meth c Z EL own Q G) (S : Sit p l e R s m args below meth c Z EL own vm T h k n) (hx : p.tables.exec = Jvm.exec) (hret : meth.sig.returnType = some t) {pc : Nat} {Ls : Array Slot} {w : Value} {rest : List Value} (hnw : narrow t w = w)
    (hi : (i = .ireturn ∧ (t = .int ∨ t = .boolean ∨ t = .byte ∨ t = .char ∨ t = .short) ∧ ∃ z, w = .int z) ∨ (i = .lreturn ∧ t = .long ∧ ∃ z, w = .long z) ∨ (i = .dreturn ∧ t = .double ∧ ∃ z, w = .double z) ∨ (i = .freturn ∧ t = .float ∧ ∃ z, w = .float z) ∨ (i = .areturn ∧ t.isReference = true ∧ w.isRef = true))
    (hd : decode c.code pc = .ok (i, 1)) (hk : k ≤ R.cells) (hn : n ≤ R.slots) (hQ : Q (some w) h) : G T (mkF m pc Ls (w :: rest)) :=
  hR vm T h k n _ _ S hk hn (fun q => by rw [hret] at q; cases q) hQ (fun fs hr => by obtain ⟨_, X, -⟩ := S; exact RoadKit.retOut X hx hret hnw hi hd hr)
theorem Sit.ret0 {Q : Option Value → Heap → Prop} (hR : Rt p l e R s m args below meth c Z EL own Q G) (S : Sit p l e R s m args below meth c Z EL own vm T h k n) (hx : p.tables.exec = Jvm.exec) (hret : meth.sig.returnType = none) {pc : Nat} {Ls : Array Slot} (hd : decode c.code pc = .ok (.return_, 1)) (hk : k ≤ R.cells) (hn : n ≤ R.slots) (hQ : Q none h) : G T (mkF m pc Ls []) :=
  hR vm T h k n _ _ S hk hn (fun q => rfl) hQ (fun fs hr => by obtain ⟨_, X, -⟩ := S; exact X.returnOut hx hret hd hr)
theorem Con.of {y : MethodName} {bytes : ByteArray} {maxL : Nat} {ret : Option FieldType} {cw : List Jvm.Cond} {rm : Room} {as : Array Value} {Q : Option Value → Heap → Prop} (hp : plainFor y = true) (hEL : EW Z a0 EL) (hO : Ext Z.heap h)
    (body : ∀ {p : Program} {e : Env} {s : State} {m : MethodId} {below : List Frame} {meth : Method} {c : Code} {T : State} {G : State → JFrame → Prop} {vm : Vm}, p.tables.exec = Jvm.exec → c.code = bytes → c.maxLocals = maxL → meth.sig.returnType = ret → meth.name = y.name → Cl p e below G → Rt p l e rm s m as below meth c Z EL y.cls Q G → Sit p l e rm s m as below meth c Z EL y.cls vm T h 0 0 → G T (entryFrame m as maxL)) :
    Con l Z EL y bytes maxL ret cw rm as h Q := by
  refine MetFree.of_bodySF hp hisR ?_
  intro p e s m args below meth c s₁ Bd hml0 hP hK
  obtain ⟨rfl, hZ, rfl, hC⟩ := hP
  have X0 : Stand p l e rm s m args below meth c s₁ [] 0 0 := Stand.of_body Bd
  have e0 : s₁.heap = s.heap := by rw [Bd.state]; rfl
  have hlk : meth.locks = false := Bd.notSynchronized
  have hX : Stand p l e rm (s.setVm s.vm) m args below meth c s₁ [] 0 0 := by rw [State.setVm_self]; exact X0
  refine body (G := fun T g => ∃ s₂ o, Steps p.tables e below (T.setTop g) s₂ ∧ s₂.status = .running ∧ Ended s₂ below o ∧ ∃ v L, o = .returned v ∧ (Q v s₂.heap ∧ Fr Z.heap.size L) ∧ CHr Z EL s.vm s.heap s₂.vm s₂.heap ∧ ReturnedEndW s o s₂ L rm.cells rm.slots) (vm := s.vm) Bd.exec Bd.bytes hml0 Bd.returns (name_of_methodNamed Bd.named Bd.method).1 (fun T T' g g' f ⟨s₂, o, st, r⟩ => ⟨s₂, o, f _ st, r⟩) ?_
    ⟨[], hX, e0, hZ, findClass_of_methodNamed Bd.named, ⟨_, (State.WarmedH.refl s).since _, Nat.le_refl _⟩, CHr.refl hC, Fr.nil _, hO, trivial⟩
  intro vm T h k n v g S hk hn hv hQ hst
  obtain ⟨locs, X, rfl, hZ', hown', ⟨j, hS, hj⟩, C0, N, O, hN⟩ := S
  obtain ⟨fs, hr, hrun, hended, hend⟩ := X.leaveW hS hj hv hlk
  exact ⟨_, _, hst fs hr, hrun, hended, v, locs, rfl, ⟨hQ, N⟩, C0.trans (show CHr Z EL vm T.heap T.vm T.heap from CHv.at X hZ' hEL C0.1), hend.1, hend.2.1, hend.2.2.1, hend.2.2.2.mono hk hn⟩
end L
end Jvm.Pilot.@@N@@.Own
namespace Jvm.Pilot.@@N@@.Own
open Jvm Jvm.ClassFile Sem Op Lib Jvm.Free Jvm.Stand Jvm.LawKit Jvm.RoadKit
section L2
variable {p : Program} {l : Launch} {e : Env} {R : Room} {s : State} {m : MethodId} {args : Array Value} {below : List Frame} {meth : Method} {c : Code} {Z : State} {EL : List (String × Nat)} {own : String} {a0 : Array Value} {vm vm' vm'' : Vm} {T T' : State} {h h' h'' : Heap} {k n : Nat} {G : State → JFrame → Prop} {ws ws' us : List Addr} {x a b t : Addr}
/-- COMPACT_STRINGS is on -/
def Cmp (Z : State) : Prop := ∃ z : Int32, Sta Z Z.heap ST "COMPACT_STRINGS" "Z" (.int z) ∧ ¬ z = 0
def Sio (Z : State) : Prop := ∃ fm : Value, Sta Z Z.heap "jdk/internal/util/Preconditions" "SIOOBE_FORMATTER" "Ljava/util/function/BiFunction;" fm ∧ fm.isRef = true
theorem up (cs : List Int32) (h : ∀ c ∈ cs, ¬ c < 0 ∧ ¬ (255 : Int32) < c) : ∀ c ∈ cs, ¬ c < 0 ∧ ¬ (65535 : Int32) < c := fun c hc => ⟨(h c hc).1, fun q => (h c hc).2 (by rw [Int32.lt_iff_toInt_lt] at q ⊢; have e1 : (65535 : Int32).toInt = 65535 := rfl; have e2 : (255 : Int32).toInt = 255 := rfl; omega)⟩
/-- a pure virtual call paid by a Back -/
theorem Sit.pureV (hG : Cl p e below G) (S : Sit p l e R s m args below meth c Z EL own vm T h k n) (hx : p.tables.exec = Jvm.exec) {C : String} {index : Nat} {y : MethodName} {as : List Value} {Q : Option Value → Prop}
    (wl : (Jvm.Cond.methodLink own index y).before a0 Z = true) (wd : (Jvm.Cond.declares y).before a0 Z = true) (wsl : (Jvm.Cond.selects C y y).before a0 Z = true) (wim : (Jvm.Cond.instanceMethod y).before a0 Z = true) (hy : y.cls ≠ "java/lang/invoke/MethodHandle" ∧ y.cls ≠ "java/lang/invoke/VarHandle")
    (E : Exa Z h b C) {W : Nat} (hK : Back l R p e below (s.setVm vm) args y 3 W (fun P a => a = (.ref b :: as).toArray ∧ P.U.heap = h ∧ P.cells + 0 ≤ R.cells ∧ P.slots + 0 ≤ R.slots) (fun P _ v B => ∃ L, (Q v ∧ L = [] ∧ B.U.heap = h) ∧ B.locs = P.locs ++ L ∧ B.cells = P.cells + 0 ∧ B.slots = P.slots + 0))
    {ps : List FieldType} {r : Option FieldType} (hd0 : parseMethodDescriptor y.desc = some ⟨ps, r⟩) (hlen : as.length = ps.length)
    {g : JFrame} (hg : g.method = m) (hsize : g.locals.size = c.maxLocals) {rest : List Value} (hs : g.stack = as.reverse ++ .ref b :: rest) (hW : 2 * g.monitorRoom + (rest.map fun v => v.category).sum ≤ W) (hd : decode c.code g.pc = .ok (.invokevirtual index, 3)) (hc : k ≤ R.cells) (hsl : n ≤ R.slots)
    (K : ∀ v T', Sit p l e R s m args below meth c Z EL own vm T' h k n → Q v → G T' { g with pc := g.pc + 3, stack := v.toList ++ rest }) : G T g := by
  obtain ⟨locs, X, eT, hZ, hown, hS, C, N, O, hn⟩ := S
  obtain ⟨cB, kB, i1, -, i2⟩ := isOf (s := s.setVm vm) hZ eT E
  obtain ⟨v, vm1, ⟨U, L', k', n'⟩, -, X', ⟨L, ⟨hq, hL, hU⟩, q1, q2, q3⟩, st⟩ := X.virtualBack hx (y := y) (z := y) hown (mvT hZ wl) (mvT hZ wd) (notFace_of_selects (args := #[]) (mvT hZ wsl)) (mvT hZ wsl) (mvT hZ wim) hy hK i1 i2 hg hsize (Steps.refl _) (argsL := as) (lenOf hd0 hlen) hs hW hd (fun _ _ => ⟨rfl, eT, hc, hsl⟩)
  dsimp only [Pt.U, Pt.locs, Pt.cells, Pt.slots] at X' hU q1 q2 q3 st
  subst q1 q2 q3 hL
  rw [List.append_nil] at X'
  exact hG.st (fun t q => st.trans q) (K v U ⟨locs, X', hU, hZ, hown, hS, C, N, O, hn⟩ hq)
section Nw
variable {args : Array Value} {u v : Term} {z : Int32} {vs : List Value} {dv : Value} {ty : FieldType} {cs : List Int32}
theorem eqI (h : (Jvm.Cond.eq u v).value args s none s [] = some true) (hb : v.eval args s none [] s = some (.int z)) : u.eval args s none [] s = some (.int z) := by
  obtain ⟨x, y, h1, h2, h3, h4⟩ := cmp_v (Or.inl h)
  cases h2.symm.trans hb
  obtain ⟨w, rfl⟩ := h4
  have := gotT (Cond.eq_ints h1 hb) h
  rw [h1, this]
theorem eqR (h : (Jvm.Cond.eq u v).value args s none s [] = some true) (hb : v.eval args s none [] s = some (.ref a)) : u.eval args s none [] s = some (.ref a) := by
  obtain ⟨x, y, h1, h2, h3, h4⟩ := cmp_v (Or.inl h)
  cases h2.symm.trans hb
  have := gotT (eq_R h1 hb h4.2 rfl) h
  rw [h1, this]
theorem eqR2 (h : (Jvm.Cond.eq u v).value args s none s [] = some true) (hb : u.eval args s none [] s = some (.ref a)) : v.eval args s none [] s = some (.ref a) := by
  obtain ⟨x, y, h1, h2, h3, h4⟩ := cmp_v (Or.inl h)
  cases h1.symm.trans hb
  have := gotT (eq_R hb h2 rfl h3.2) h
  rw [h2, ← this]
theorem arvOf (hf : Fit s) (ev : u.eval args s none [] s = some (.ref a)) (hA : (Jvm.Cond.arrayOf u ty).value args s none s [] = some true) (hl : (Jvm.Cond.eq (.length u) (.int z)).value args s none s [] = some true) (hz : ¬ z < 0) (hn : z.toNatClampNeg = vs.length)
    (hv : ∀ i (hi : i < vs.length), (Term.elem u (.int (Int32.ofNat i))).eval args s none [] s = some vs[i]) : ∃ kc, Arv s s.heap a kc ty z vs dv := by
  obtain ⟨cl, A⟩ := Arr.start ev hA
  have hlen := eqI hl (Term.int_eval z)
  have hat : s.arrayAt? a = some cl := A.fin ⟨rfl, rfl, fun _ k hk => ⟨k, hk, rfl⟩⟩
  have h31 := SBG.length_lt ev hat hlen
  have hs : cl.slots.size.toInt32 = z := by
    have := (len_f ev hat h31).symm.trans hlen
    simpa using this
  have hsz : cl.slots.size = z.toNatClampNeg := by
    rw [← hs]
    show _ = (Int32.ofNat cl.slots.size).toNatClampNeg
    simp [Int32.toNatClampNeg, Int32.toInt_ofNat_small h31]
  have hel : ∀ i, i < cl.slots.size → cl.slots[i]? = some (vs.getD i dv) := fun i hi => by
    have hi' : i < vs.length := by omega
    have q := elem_in (hv i hi') ev (Term.int_eval _) A.1
    have e : (Int32.ofNat i).toNatClampNeg = i := by simp [Int32.toNatClampNeg, Int32.toInt_ofNat_small (show i < 2 ^ 31 by omega)]
    rw [e] at q
    rw [q.2]; simp [hi']
  refine ⟨cl.cls, cl, A, rfl, hsz, hz, hel, fun i hi => ?_⟩
  have e : (Int32.ofNat i).toNatClampNeg = i := by simp [Int32.toNatClampNeg, Int32.toInt_ofNat_small (show i < 2 ^ 31 by omega)]
  have hnn : ¬ (Int32.ofNat i < 0 ∨ cl.slots.size ≤ (Int32.ofNat i).toNatClampNeg) := by
    rw [e, Int32.lt_iff_toInt_lt, Int32.toInt_ofNat_small (show i < 2 ^ 31 by omega)]
    have : (0 : Int32).toInt = 0 := rfl
    omega
  obtain ⟨w, hw1, hw2⟩ := elem_fit hf A hnn
  rw [e, hel i hi] at hw1
  cases hw1
  exact hw2
theorem strOf (hf : Fit s) (ev : u.eval args s none [] s = some (.ref x)) (E : Exa s s.heap x ST) (hc : (Term.field u ST "coder" "B").eval args s none [] s = some (.int 0)) (hv : (Term.field u ST "value" "[B").eval args s none [] s = some (.ref t))
    (hA : (Jvm.Cond.arrayOf (.field u ST "value" "[B") .byte).value args s none s [] = some true) (hl : (Jvm.Cond.eq (.length (.field u ST "value" "[B")) (.int (Int32.ofNat cs.length))).value args s none s [] = some true) (hr : ∀ c ∈ cs, ¬ c < 0 ∧ ¬ (255 : Int32) < c) (hn : cs.length ≤ 4000) (hz : (Int32.ofNat cs.length).toNatClampNeg = cs.length)
    (he : ∀ i (hi : i < cs.length), (Term.elem (.field u ST "value" "[B") (.int (Int32.ofNat i))).eval args s none [] s = some (.int (cs[i]).toInt8.toInt32)) : Str s s.heap x t cs := by
  have hz0 : ¬ Int32.ofNat cs.length < 0 := by
    rw [Int32.lt_iff_toInt_lt, Int32.toInt_ofNat_small (by omega)]
    exact Int.not_lt.mpr (Int.natCast_nonneg _)
  obtain ⟨kc, A⟩ := arvOf (dv := .int 0) (vs := (cs.map fun c => c.toInt8.toInt32).map Value.int) hf hv hA hl hz0 (by rw [hz]; simp) (fun i hi => by
    have hi' : i < cs.length := by simpa using hi
    rw [he i hi']; simp)
  exact ⟨kc, E, Fld.start ((fld_at ev).symm.trans hv), Fld.start ((fld_at ev).symm.trans hc), A, hr, hn⟩
end Nw
theorem Sit.strChar (hG : Cl p e below G) (S : Sit p l e R s m args below meth c Z EL own vm T h k n) (hx : p.tables.exec = Jvm.exec) (hws : ∀ d ∈ StrChars.Road.wordsChN, d.before a0 Z = true) (hcs : Cmp Z) (hsi : Sio Z) (wi : (Jvm.Cond.instantiable ST 4).before a0 Z = true) {index : Nat}
    (wl : (Jvm.Cond.methodLink own index ⟨"java/lang/String", "charAt", "(I)C"⟩).before a0 Z = true) (wd : (Jvm.Cond.declares ⟨"java/lang/String", "charAt", "(I)C"⟩).before a0 Z = true) (wsl : (Jvm.Cond.selects ST ⟨"java/lang/String", "charAt", "(I)C"⟩ ⟨"java/lang/String", "charAt", "(I)C"⟩).before a0 Z = true) (wim : (Jvm.Cond.instanceMethod ⟨"java/lang/String", "charAt", "(I)C"⟩).before a0 Z = true)
    {cs : List Int32} (F : Str Z h b t cs) {i : Nat} {j : Int32} (hi : i < cs.length) (hj : j = Int32.ofNat i) {g : JFrame} (hg : g.method = m) (hsize : g.locals.size = c.maxLocals) {rest : List Value} (hs : g.stack = .int j :: .ref b :: rest) {W : Nat} (hW : 2 * g.monitorRoom + (rest.map fun v => v.category).sum ≤ W) (hd : decode c.code g.pc = .ok (.invokevirtual index, 3)) (hf : 4 ≤ R.frames) (hl : W + 53 ≤ R.locals) (hc : k ≤ R.cells) (hsl : n ≤ R.slots)
    (K : ∀ T', Sit p l e R s m args below meth c Z EL own vm T' h k n → G T' { g with pc := g.pc + 3, stack := .int (cs.getD i 0) :: rest }) : G T g := by
  obtain ⟨z, hz1, hz2⟩ := hcs
  obtain ⟨fm, hm1, hm2⟩ := hsi
  obtain ⟨kb, q1, q2, q3, q4, q5, q6⟩ := F
  have hcd := StrChars.Road.codOf (cs := cs) (n := cs.length) rfl (fun c hc => (q5 c hc).2)
  refine S.pureV hG hx (Q := fun v => v = some (.int (cs.getD i 0))) wl wd wsl wim (by decide) q1 (as := [.int j]) (W := W) (StrChars.Road.chN (W := W) S.warm hws wi q1 q2 q3 q4 hcd (up _ q5) (hz1.ext S.old) hz2 (hm1.ext S.old) hm2 q6 hi hj hf hl) (ps := [.int]) (r := some .char) (by decide +kernel) rfl hg hsize (rest := rest) hs hW hd hc hsl ?_
  rintro v T' S' rfl
  exact K T' S'
theorem Sit.strEq (hG : Cl p e below G) (S : Sit p l e R s m args below meth c Z EL own vm T h k n) (hx : p.tables.exec = Jvm.exec) (hws : ∀ d ∈ StrChars.Road.wordsEq, d.before a0 Z = true) (hcs : Cmp Z) (wi : (Jvm.Cond.instantiable ST 4).before a0 Z = true) {index : Nat}
    (wl : (Jvm.Cond.methodLink own index ⟨"java/lang/String", "equals", "(Ljava/lang/Object;)Z"⟩).before a0 Z = true) (wd : (Jvm.Cond.declares ⟨"java/lang/String", "equals", "(Ljava/lang/Object;)Z"⟩).before a0 Z = true) (wsl : (Jvm.Cond.selects ST ⟨"java/lang/String", "equals", "(Ljava/lang/Object;)Z"⟩ ⟨"java/lang/String", "equals", "(Ljava/lang/Object;)Z"⟩).before a0 Z = true) (wim : (Jvm.Cond.instanceMethod ⟨"java/lang/String", "equals", "(Ljava/lang/Object;)Z"⟩).before a0 Z = true)
    {cs ds : List Int32} {y u : Addr} (F : Str Z h b t cs) (F' : Str Z h y u ds) {g : JFrame} (hg : g.method = m) (hsize : g.locals.size = c.maxLocals) {rest : List Value} (hs : g.stack = .ref y :: .ref b :: rest) {W : Nat} (hW : 2 * g.monitorRoom + (rest.map fun v => v.category).sum ≤ W) (hd : decode c.code g.pc = .ok (.invokevirtual index, 3)) (hf : 2 ≤ R.frames) (hl : W + 28 ≤ R.locals) (hc : k ≤ R.cells) (hsl : n ≤ R.slots)
    (K : ∀ T', Sit p l e R s m args below meth c Z EL own vm T' h k n → G T' { g with pc := g.pc + 3, stack := .int (if cs = ds then 1 else 0) :: rest }) : G T g := by
  obtain ⟨z, hz1, hz2⟩ := hcs
  obtain ⟨kb, q1, q2, q3, q4, q5, q6⟩ := F
  obtain ⟨kb', r1, r2, r3, r4, r5, r6⟩ := F'
  have hcd := StrChars.Road.codOf (cs := cs) (n := cs.length) rfl (fun c hc => (q5 c hc).2)
  have hcd' := StrChars.Road.codOf (cs := ds) (n := ds.length) rfl (fun c hc => (r5 c hc).2)
  refine S.pureV hG hx (Q := fun v => (v = some (.int 1) ∧ cs = ds) ∨ (v = some (.int 0) ∧ ¬ cs = ds)) wl wd wsl wim (by decide) q1 (as := [.ref y]) (W := W) (StrChars.Road.eqW (W := W) S.warm hws wi q1 q2 q3 q4 hcd (up _ q5) q6 r1 r2 r3 r4 hcd' (up _ r5) r6 (hz1.ext S.old) hz2 hf hl) (ps := [.object "java/lang/Object"]) (r := some .boolean) (by decide +kernel) rfl hg hsize (rest := rest) hs hW hd hc hsl ?_
  rintro v T' S' (⟨rfl, hq⟩ | ⟨rfl, hq⟩)
  · have := K T' S'
    rw [if_pos hq] at this
    exact this
  · have := K T' S'
    rw [if_neg hq] at this
    exact this
theorem Sit.newStr (hG : Cl p e below G) (S : Sit p l e R s m args below meth c Z EL own vm T h k n) (hx : p.tables.exec = Jvm.exec) (hws : ∀ d ∈ StrChars.Road.words, d.before a0 Z = true) (hcs : Cmp Z) (wi : (Jvm.Cond.instantiable ST 4).before a0 Z = true) {index : Nat}
    (wl : (Jvm.Cond.methodLink own index ⟨"java/lang/String", "<init>", "([C)V"⟩).before a0 Z = true) (wim : (Jvm.Cond.instanceMethod ⟨"java/lang/String", "<init>", "([C)V"⟩).before a0 Z = true)
    {cs : List Int32} {kC : ClassId} {d v0 c0 : Value} {zn : Int32} (gx : Z.heap.size ≤ x) (sf : Safe Z EL vm h x) (E : Exa Z h x ST) (V : Fld Z h x ST "value" "[B" v0) (C : Fld Z h x ST "coder" "B" c0) (A : Arv Z h b kC .char zn (cs.map Value.int) d) (hN : zn = Int32.ofNat cs.length) (l0 : 0 < cs.length) (l2 : cs.length ≤ 4000) (hp : ∀ c ∈ cs, ¬ c < 0 ∧ ¬ (255 : Int32) < c)
    {nn : Nat} (hnn : cs.length ≤ nn) {g : JFrame} (hg : g.method = m) (hsize : g.locals.size = c.maxLocals) {rest : List Value} (hs : g.stack = .ref b :: .ref x :: rest) {W : Nat} (hW : 2 * g.monitorRoom + (rest.map fun v => v.category).sum ≤ W) (hd : decode c.code g.pc = .ok (.invokespecial index, 3)) (hf : 4 ≤ R.frames) (hl : W + 65 ≤ R.locals) (hc : k + 1 ≤ R.cells) (hsl : n + nn ≤ R.slots)
    (K : ∀ T' h' t, Sit p l e R s m args below meth c Z EL own vm T' h' (k + 1) (n + nn) → Stp Z EL vm h vm h' [x] → h.size ≤ t → Str Z h' x t cs → G T' { g with pc := g.pc + 3, stack := rest }) : G T g := by
  obtain ⟨z, hz1, hz2⟩ := hcs
  have ho := S.old
  obtain ⟨locs, X, eT, hZ, hown, ⟨j, hS, hj⟩, C0, N, O, hn⟩ := S
  obtain ⟨v, vm1, ⟨U, L', k', n'⟩, -, X', ⟨L, hQ, q1, q2, q3⟩, st⟩ := X.specialBack hx (y := (⟨"java/lang/String", "<init>", "([C)V"⟩ : MethodName)) rfl hown (mvT hZ wl) (mvT hZ wim) (mvT hZ (hws _ List.mem_cons_self)) (by decide) (StrChars.Road.backV (W := W) (bs := cs.map (fun c => c.toInt8.toInt32)) (n := cs.length) (n0 := Z.heap.size) hZ hws wi gx ho.1 E V C A (hz1.ext ho) hz2 rfl hN l0 l2 hp rfl hf hl) hg hsize (Steps.refl _) (a := x) (argsL := [.ref b]) (rest := rest) (lenOf (ps := [.array .char]) (r := none) (by decide +kernel) rfl) hs hW hd (fun _ _ => ⟨rfl, eT, hc, Nat.le_trans (Nat.add_le_add_left hnn _) hsl⟩)
  dsimp only [Pt.U, Pt.locs, Pt.cells, Pt.slots] at X' hQ q1 q2 q3 st
  subst q1 q2 q3
  obtain ⟨rfl, N', K', E', C', t, kb, t1, t2, t3, V', A'⟩ := hQ
  have J : Stp Z EL vm h vm U.heap [x] := Stp.of_keep K' (allS sf all0) C0.1
  subst hN
  refine hG.st (fun t q => st.trans q) (K U U.heap t ⟨_, { X' with same := X'.same.mono (Nat.le_refl _) (Nat.add_le_add_left hnn _) }, rfl, hZ, hown, ⟨j, hS, Nat.le_trans hj K'.1⟩, C0.trans J.2, N.app N', O, hn⟩ J t2 ⟨kb, E', V', C', A', hp, l2⟩)
end L2
end Jvm.Pilot.@@N@@.Own

namespace Jvm.Pilot.@@N@@.Own
open Jvm Jvm.ClassFile Sem Op Lib Jvm.Free Jvm.Stand Jvm.LawKit Jvm.RoadKit
section L3
variable {p : Program} {l : Launch} {e : Env} {R : Room} {s : State} {m : MethodId} {args : Array Value} {below : List Frame} {meth : Method} {c : Code} {Z : State} {EL : List (String × Nat)} {own : String} {a0 : Array Value} {vm vm' vm'' : Vm} {T T' : State} {h h' h'' : Heap} {k n : Nat} {G : State → JFrame → Prop} {ws ws' us : List Addr} {x a b t : Addr}
theorem Sit.ldc2 (hG : Cl p e below G) (S : Sit p l e R s m args below meth c Z EL own vm T h k n) (hx : p.tables.exec = Jvm.exec) {index : Nat} {z : Int64} (w : (Jvm.Cond.constantLong own index z).before a0 Z = true) {g : JFrame} (hg : g.method = m) (hd : decode c.code g.pc = .ok (.ldc2_w index, 3)) (q : G T { g with pc := g.pc + 3, stack := .long z :: g.stack }) : G T g := by
  obtain ⟨_, X, _, hZ, hown, -⟩ := S
  exact hG.st (fun t r => X.ldc2Long hx hown (mvT hZ w) hg hd t r) q
end L3
end Jvm.Pilot.@@N@@.Own

namespace Jvm.Pilot.@@N@@
open Jvm Jvm.ClassFile Sem Op Lib Jvm.Free Jvm.Stand Jvm.LawKit Jvm.RoadKit Bundle Jvm.Pilot.@@N@@.Jvm.D
def own_Wld (Z : State) (a0 : Array Value) : Prop := (∀ d ∈ tables_1, d.before a0 Z = true) ∧ Own.Cmp Z ∧ Own.Sio Z ∧ EW Z a0 consts_1
set_option maxRecDepth 65536 in
theorem own_wbackV : ∀ d ∈ StrChars.Road.words, d ∈ tables_1 := by decide +kernel
set_option maxRecDepth 65536 in
theorem own_wchN : ∀ d ∈ StrChars.Road.wordsChN, d ∈ tables_1 := by decide +kernel
set_option maxRecDepth 65536 in
theorem own_weqW : ∀ d ∈ StrChars.Road.wordsEq, d ∈ tables_1 := by decide +kernel
set_option maxRecDepth 65536 in
theorem own_wSA : ∀ d ∈ Bundle.stringAtoms, d ∈ tables_1 := by decide +kernel
def own_En (Z : State) (ka kd va sl tl sn tn em : Addr) (kc : ClassId) : Prop := Sta Z Z.heap "com/example/lorac/lorac/Edit$Operation" "ADD" "Lcom/example/lorac/lorac/Edit$Operation;" (.ref ka) ∧ Sta Z Z.heap "com/example/lorac/lorac/Edit$Operation" "DELETE" "Lcom/example/lorac/lorac/Edit$Operation;" (.ref kd) ∧ Sta Z Z.heap "com/example/lorac/lorac/Edit$Operation" "$VALUES" "[Lcom/example/lorac/lorac/Edit$Operation;" (.ref va) ∧ Arv Z Z.heap va kc (.object "com/example/lorac/lorac/Edit$Operation") (2 : Int32) [(.ref ka), (.ref kd)] .null ∧ Exa Z Z.heap va "[Lcom/example/lorac/lorac/Edit$Operation;" ∧ Exa Z Z.heap ka "com/example/lorac/lorac/Edit$Operation" ∧ Exa Z Z.heap kd "com/example/lorac/lorac/Edit$Operation" ∧ Fld Z Z.heap ka "com/example/lorac/lorac/Edit$Operation" "word" "Ljava/lang/String;" (.ref sl) ∧ Fld Z Z.heap kd "com/example/lorac/lorac/Edit$Operation" "word" "Ljava/lang/String;" (.ref sn) ∧ Own.Str Z Z.heap sl tl ([97, 100, 100] : List Int32) ∧ Own.Str Z Z.heap sn tn ([100, 101, 108, 101, 116, 101] : List Int32) ∧ Sta Z Z.heap "java/util/Optional" "EMPTY" "Ljava/util/Optional;" (.ref em) ∧ Exa Z Z.heap em "java/util/Optional" ∧ Fld Z Z.heap em "java/util/Optional" "value" "Ljava/lang/Object;" .null
theorem own_pn425291 : plainFor (⟨"java/lang/String", "<init>", "([CIILjava/lang/Void;)V"⟩ : MethodName) = true := by first | exact plainFor_of_name (by first | (simp [plainName, overriddenIn]; done) | decide +kernel) | decide +kernel
theorem own_djdk_42_method_149_code_0 : decode jdk_42_method_149_code 0 = .ok (.aload_n 0, 1) := by decide +kernel
theorem own_djdk_42_method_149_code_1 : decode jdk_42_method_149_code 1 = .ok (.invokespecial 1, 3) := by decide +kernel
theorem own_djdk_42_method_149_code_4 : decode jdk_42_method_149_code 4 = .ok (.iload_n 3, 1) := by decide +kernel
theorem own_djdk_42_method_149_code_5 : decode jdk_42_method_149_code 5 = .ok (.ifCond .ne 22, 3) := by decide +kernel
theorem own_djdk_42_method_149_code_8 : decode jdk_42_method_149_code 8 = .ok (.aload_n 0, 1) := by decide +kernel
theorem own_djdk_42_method_149_code_9 : decode jdk_42_method_149_code 9 = .ok (.ldc 7, 2) := by decide +kernel
theorem own_djdk_42_method_149_code_11 : decode jdk_42_method_149_code 11 = .ok (.getfield 9, 3) := by decide +kernel
theorem own_djdk_42_method_149_code_14 : decode jdk_42_method_149_code 14 = .ok (.putfield 9, 3) := by decide +kernel
theorem own_djdk_42_method_149_code_17 : decode jdk_42_method_149_code 17 = .ok (.aload_n 0, 1) := by decide +kernel
theorem own_djdk_42_method_149_code_18 : decode jdk_42_method_149_code 18 = .ok (.ldc 7, 2) := by decide +kernel
theorem own_djdk_42_method_149_code_20 : decode jdk_42_method_149_code 20 = .ok (.getfield 15, 3) := by decide +kernel
theorem own_djdk_42_method_149_code_23 : decode jdk_42_method_149_code 23 = .ok (.putfield 15, 3) := by decide +kernel
theorem own_djdk_42_method_149_code_26 : decode jdk_42_method_149_code 26 = .ok (.return_, 1) := by decide +kernel
theorem own_ef_own_emp4 (m : MethodId) (x : Addr) (b : Addr) : entryFrame m #[(.ref x), (.ref b), (.int 0), (.int 0), .null] 6 = mkF m 0 #[rv x, rv b, iv 0, iv 0, .val .null, .unset] [] := by first | (simp [entryFrame, mkF, argsToLocals, Value.category]; done) | rfl
set_option maxRecDepth 65536 in
set_option maxHeartbeats 40000000 in
theorem own_emp4 (l : Launch) (Z : State) (a0 : Array Value) (H : own_Wld Z a0) {cw : List Jvm.Cond} (x : Addr) (b : Addr) (h0 : Heap) (O0 : Ext Z.heap h0) (g_x : Z.heap.size ≤ x) (E_x : Exa Z h0 x "java/lang/String") (Fv : Fld Z h0 x "java/lang/String" "value" "[B" .null) (Fc : Fld Z h0 x "java/lang/String" "coder" "B" (.int 0)) :
    Own.Con l Z consts_1 (⟨"java/lang/String", "<init>", "([CIILjava/lang/Void;)V"⟩ : MethodName) jdk_42_method_149_code 6 none cw ({ frames := 1, cells := 4, slots := 8, locals := 12 } : Room) #[(.ref x), (.ref b), (.int 0), (.int 0), .null] h0 (fun v h => Keep h0 h [x] ∧ v = none ∧ ∃ t, Own.Str Z h x t []) := by
  have hw := H.1
  have hW := fun (i : Nat) (w : Jvm.Cond) (e : tables_1[i]? = some w) => hw w (List.mem_of_getElem? e)
  have hCm := H.2.1
  have hSi := H.2.2.1
  have hEL := H.2.2.2
  have hWs : ∀ d ∈ StrChars.Road.words, d.before a0 Z = true := fun d hd => hw d (own_wbackV d hd)
  have hWc : ∀ d ∈ StrChars.Road.wordsChN, d.before a0 Z = true := fun d hd => hw d (own_wchN d hd)
  have hWe : ∀ d ∈ StrChars.Road.wordsEq, d.before a0 Z = true := fun d hd => hw d (own_weqW d hd)
  have hSA : ∀ d ∈ Bundle.stringAtoms, d.before a0 Z = true := fun d hd => hw d (own_wSA d hd)
  refine Own.Con.of own_pn425291 hEL O0 ?_
  intro p e s m below meth c T0 G vm0 hx hby hml hret hnm hG hR S0
  have hz : ∀ L : Array Slot, L.size = 6 → L.size = c.maxLocals := fun L q => q.trans hml.symm
  rw [own_ef_own_emp4]
  show G T0 (mkF m 0 #[rv x, rv b, iv 0, iv 0, .val .null, .unset] [])
  have sf_x : Safe Z consts_1 vm0 h0 x := Own.Safe.blank S0.warm.alike E_x Fv (hW 13 _ rfl)
  refine hG.st (fun t q => XS.aloadN S0.here hx rfl (hb hby own_djdk_42_method_149_code_0) rfl rfl q) ?_
  show G T0 (mkF m 1 #[rv x, rv b, iv 0, iv 0, .val .null, .unset] [(.ref x)])
  refine Own.Sit.initO hG S0 hx (hW 22 _ rfl) (hW 23 _ rfl) (hW 24 _ rfl) rfl (hz _ rfl) rfl (hb hby own_djdk_42_method_149_code_1) (by decide) (W := 0) (by show 2 * 0 + _ ≤ _; exact Nat.le_of_eq rfl) (by decide) (fun T1 S1 => ?_)
  show G T1 (mkF m 4 #[rv x, rv b, iv 0, iv 0, .val .null, .unset] [])
  refine hG.st (fun t q => XS.iloadN S1.here hx rfl (hb hby own_djdk_42_method_149_code_4) rfl (XS.ifNo S1.here hx rfl (hb hby own_djdk_42_method_149_code_5) rfl ((if0 _ _).trans (teq (by decide : (0 : Int32) = (0 : Int32))).2) (XS.aloadN S1.here hx rfl (hb hby own_djdk_42_method_149_code_8) rfl rfl q))) ?_
  show G T1 (mkF m 9 #[rv x, rv b, iv 0, iv 0, .val .null, .unset] [(.ref x)])
  refine Own.Sit.ldc hG S1 hx hEL (hW 86 _ rfl) hSA (by decide) (cs := ([] : List Int32)) ⟨by decide, by decide⟩ (by decide) (by decide) rfl (hb hby own_djdk_42_method_149_code_9) (nn := 0) (by decide) (by decide) (by decide) (by decide) (fun vm2 T2 h2 x2 y2 S2 J2 St2 L2 => ?_)
  show G T2 (mkF m 11 #[rv x, rv b, iv 0, iv 0, .val .null, .unset] [(.ref x2), (.ref x)])
  obtain ⟨kb3, Ea3, Fa3, Fb3, Ab3, -, -⟩ := id St2
  refine Own.Sit.getF hG S2 hx (host := "") (Or.inl (hW 39 _ rfl)) Via.refl Fa3 rfl rfl (hb hby own_djdk_42_method_149_code_11) (fun T4 S4 => ?_)
  show G T4 (mkF m 14 #[rv x, rv b, iv 0, iv 0, .val .null, .unset] [(.ref y2), (.ref x)])
  have F5 := J2.fld Fv nin0
  have E6 := J2.exa E_x
  have Sf7 := J2.safe E_x.lt sf_x
  have F9 := J2.fld Fc nin0
  refine Own.Sit.putF hG S4 hx (host := "") (Or.inl (hW 39 _ rfl)) Via.refl F5 E6 (Or.inr ⟨(hW 40 _ rfl), rfl, hnm⟩) (hW 13 _ rfl) (ty := (.array .byte)) (by decide) rfl rfl g_x Sf7 rfl rfl (hb hby own_djdk_42_method_149_code_14) (fun T8 h8 S8 J8 W8 F8 => ?_)
  have F10 := Fld.other W8 F9 (Or.inr (slot_ne (Or.inr (hW 38 _ rfl)) (Or.inr (hW 40 _ rfl)) (by decide) (t := .byte) (by decide) (t' := (.array .byte)) (by decide)))
  show G T8 (mkF m 17 #[rv x, rv b, iv 0, iv 0, .val .null, .unset] [])
  refine hG.st (fun t q => XS.aloadN S8.here hx rfl (hb hby own_djdk_42_method_149_code_17) rfl rfl q) ?_
  show G T8 (mkF m 18 #[rv x, rv b, iv 0, iv 0, .val .null, .unset] [(.ref x)])
  refine Own.Sit.ldc hG S8 hx hEL (hW 86 _ rfl) hSA (by decide) (cs := ([] : List Int32)) ⟨by decide, by decide⟩ (by decide) (by decide) rfl (hb hby own_djdk_42_method_149_code_18) (nn := 0) (by decide) (by decide) (by decide) (by decide) (fun vm11 T11 h11 x11 y11 S11 J11 St11 L11 => ?_)
  show G T11 (mkF m 20 #[rv x, rv b, iv 0, iv 0, .val .null, .unset] [(.ref x11), (.ref x)])
  obtain ⟨kb12, Ea12, Fa12, Fb12, Ab12, -, -⟩ := id St11
  refine Own.Sit.getF hG S11 hx (host := "") (Or.inl (hW 37 _ rfl)) Via.refl Fb12 rfl rfl (hb hby own_djdk_42_method_149_code_20) (fun T13 S13 => ?_)
  show G T13 (mkF m 23 #[rv x, rv b, iv 0, iv 0, .val .null, .unset] [(.int 0), (.ref x)])
  have F14 := J11.fld F10 nin0
  have J15 : Own.Stp Z consts_1 vm2 h2 vm11 h11 [x] := Own.Stp.trans J8 J11 (allS (List.mem_of_getElem? (i := 0) rfl) (all0)) all0
  have E16 := J15.exa E6
  have Sf17 := J15.safe (Nat.lt_of_lt_of_le E_x.lt J2.1.1) Sf7
  have F19 := J11.fld F8 nin0
  refine Own.Sit.putF hG S13 hx (host := "") (Or.inl (hW 37 _ rfl)) Via.refl F14 E16 (Or.inr ⟨(hW 38 _ rfl), rfl, hnm⟩) (hW 13 _ rfl) (ty := .byte) (by decide) rfl rfl g_x Sf17 rfl rfl (hb hby own_djdk_42_method_149_code_23) (fun T18 h18 S18 J18 W18 F18 => ?_)
  have F20 := Fld.other W18 F19 (Or.inr (slot_ne (Or.inr (hW 40 _ rfl)) (Or.inr (hW 38 _ rfl)) (by decide) (t := (.array .byte)) (by decide) (t' := .byte) (by decide)))
  show G T18 (mkF m 26 #[rv x, rv b, iv 0, iv 0, .val .null, .unset] [])
  have E21 := J18.exa E16
  have J22 : Own.Stp Z consts_1 vm2 h2 vm11 h18 [x] := Own.Stp.trans J15 J18 (allS (List.mem_of_getElem? (i := 0) rfl) (all0)) (allS (Or.inl (List.mem_of_getElem? (i := 0) rfl)) all0)
  have V23 := J22.arv Ab3 (ninS (Ne.symm (Exa.neArv (J2.exa E_x) Ab3 (hW 13 _ rfl))) nin0)
  have J24 : Own.Stp Z consts_1 vm0 h0 vm2 h8 [x] := Own.Stp.trans J2 J8 (all0) (allS (Or.inl (List.mem_of_getElem? (i := 0) rfl)) all0)
  have J25 : Own.Stp Z consts_1 vm0 h0 vm11 h11 [x] := Own.Stp.trans J24 J11 (allS (List.mem_of_getElem? (i := 0) rfl) (all0)) all0
  have J26 : Own.Stp Z consts_1 vm0 h0 vm11 h18 [x] := Own.Stp.trans J25 J18 (allS (List.mem_of_getElem? (i := 0) rfl) (all0)) (allS (Or.inl (List.mem_of_getElem? (i := 0) rfl)) all0)
  exact Own.Sit.ret0 hR S18 hx hret (hb hby own_djdk_42_method_149_code_26) (by decide) (by decide) ⟨J26.1, rfl, y2, kb3, E21, F20, F18, V23, by decide, by decide⟩
theorem own_pnc164e3 : plainFor (⟨"java/lang/String", "<init>", "([C)V"⟩ : MethodName) = true := by first | exact plainFor_of_name (by first | (simp [plainName, overriddenIn]; done) | decide +kernel) | decide +kernel
theorem own_pd2d3984 : parseMethodDescriptor "([CIILjava/lang/Void;)V" = some ⟨[(.array .char), .int, .int, (.object "java/lang/Void")], none⟩ := by decide +kernel
theorem own_djdk_42_method_3_code_0 : decode jdk_42_method_3_code 0 = .ok (.aload_n 0, 1) := by decide +kernel
theorem own_djdk_42_method_3_code_1 : decode jdk_42_method_3_code 1 = .ok (.aload_n 1, 1) := by decide +kernel
theorem own_djdk_42_method_3_code_2 : decode jdk_42_method_3_code 2 = .ok (.iconst 0, 1) := by decide +kernel
theorem own_djdk_42_method_3_code_3 : decode jdk_42_method_3_code 3 = .ok (.aload_n 1, 1) := by decide +kernel
theorem own_djdk_42_method_3_code_4 : decode jdk_42_method_3_code 4 = .ok (.arraylength, 1) := by decide +kernel
theorem own_djdk_42_method_3_code_5 : decode jdk_42_method_3_code 5 = .ok (.aconst_null, 1) := by decide +kernel
theorem own_djdk_42_method_3_code_6 : decode jdk_42_method_3_code 6 = .ok (.invokespecial 27, 3) := by decide +kernel
theorem own_djdk_42_method_3_code_9 : decode jdk_42_method_3_code 9 = .ok (.return_, 1) := by decide +kernel
theorem own_ef_own_emp1 (m : MethodId) (x : Addr) (b : Addr) : entryFrame m #[(.ref x), (.ref b)] 2 = mkF m 0 #[rv x, rv b] [] := by first | (simp [entryFrame, mkF, argsToLocals, Value.category]; done) | rfl
set_option maxRecDepth 65536 in
set_option maxHeartbeats 40000000 in
theorem own_emp1 (l : Launch) (Z : State) (a0 : Array Value) (H : own_Wld Z a0) {cw : List Jvm.Cond} (x : Addr) (b : Addr) (h0 : Heap) (O0 : Ext Z.heap h0) (g_x : Z.heap.size ≤ x) (E_x : Exa Z h0 x "java/lang/String") (Fv : Fld Z h0 x "java/lang/String" "value" "[B" .null) (Fc : Fld Z h0 x "java/lang/String" "coder" "B" (.int 0)) {kc : ClassId} {dv : Value} (A_b : Arv Z h0 b kc .char (0 : Int32) [] dv) :
    Own.Con l Z consts_1 (⟨"java/lang/String", "<init>", "([C)V"⟩ : MethodName) jdk_42_method_3_code 2 none cw ({ frames := 2, cells := 4, slots := 8, locals := 29 } : Room) #[(.ref x), (.ref b)] h0 (fun v h => Keep h0 h [x] ∧ v = none ∧ ∃ t, Own.Str Z h x t []) := by
  have hw := H.1
  have hW := fun (i : Nat) (w : Jvm.Cond) (e : tables_1[i]? = some w) => hw w (List.mem_of_getElem? e)
  have hCm := H.2.1
  have hSi := H.2.2.1
  have hEL := H.2.2.2
  have hWs : ∀ d ∈ StrChars.Road.words, d.before a0 Z = true := fun d hd => hw d (own_wbackV d hd)
  have hWc : ∀ d ∈ StrChars.Road.wordsChN, d.before a0 Z = true := fun d hd => hw d (own_wchN d hd)
  have hWe : ∀ d ∈ StrChars.Road.wordsEq, d.before a0 Z = true := fun d hd => hw d (own_weqW d hd)
  have hSA : ∀ d ∈ Bundle.stringAtoms, d.before a0 Z = true := fun d hd => hw d (own_wSA d hd)
  refine Own.Con.of own_pnc164e3 hEL O0 ?_
  intro p e s m below meth c T0 G vm0 hx hby hml hret hnm hG hR S0
  have hz : ∀ L : Array Slot, L.size = 2 → L.size = c.maxLocals := fun L q => q.trans hml.symm
  rw [own_ef_own_emp1]
  show G T0 (mkF m 0 #[rv x, rv b] [])
  have sf_x : Safe Z consts_1 vm0 h0 x := Own.Safe.blank S0.warm.alike E_x Fv (hW 13 _ rfl)
  refine hG.st (fun t q => XS.aloadN S0.here hx rfl (hb hby own_djdk_42_method_3_code_0) rfl rfl (XS.aloadN S0.here hx rfl (hb hby own_djdk_42_method_3_code_1) rfl rfl (XS.iconst S0.here hx rfl (hb hby own_djdk_42_method_3_code_2) (XS.aloadN S0.here hx rfl (hb hby own_djdk_42_method_3_code_3) rfl rfl q)))) ?_
  show G T0 (mkF m 4 #[rv x, rv b] [(.ref b), (.int 0), (.ref b), (.ref x)])
  refine Own.Sit.arraylength hG S0 hx A_b rfl rfl (hb hby own_djdk_42_method_3_code_4) ?_
  show G T0 (mkF m 5 #[rv x, rv b] [(.int 0), (.int 0), (.ref b), (.ref x)])
  refine hG.st (fun t q => XS.aconstNull S0.here hx rfl (hb hby own_djdk_42_method_3_code_5) q) ?_
  show G T0 (mkF m 6 #[rv x, rv b] [.null, (.int 0), (.int 0), (.ref b), (.ref x)])
  refine Own.Sit.callI hG S0 hx hEL rfl (as := [(.ref b), (.int 0), (.int 0), .null]) (hW 18 _ rfl) (hW 19 _ rfl) (hW 14 _ rfl) (hW 21 _ rfl) (by decide) (own_emp4 l Z a0 H x b h0 S0.old g_x E_x Fv Fc) own_pd2d3984 rfl rfl (hz _ rfl) (rest := []) rfl (W := 0) (by show 2 * 0 + _ ≤ _; exact Nat.le_of_eq rfl) (hb hby own_djdk_42_method_3_code_6) (by decide) (by decide) (by decide) (by decide) (fun v27 vm27 T27 h27 S27 C27 q27 => ?_)
  obtain ⟨K27, rfl, y27, St27⟩ := q27
  have J27 : Own.Stp Z consts_1 vm0 h0 vm27 h27 [x] := ⟨K27, C27⟩
  show G T27 (mkF m 9 #[rv x, rv b] [])
  exact Own.Sit.ret0 hR S27 hx hret (hb hby own_djdk_42_method_3_code_9) (by decide) (by decide) ⟨J27.1, rfl, _, St27⟩
theorem own_nar {y : Int32} (h : ¬ y < 0 ∧ ¬ (255 : Int32) < y) : nar .char y = y := by
  have q := c_i2c y
  have e0 : (0 : Int32).toInt = 0 := rfl
  have e255 : (255 : Int32).toInt = 255 := rfl
  simp only [Int32.lt_iff_toInt_lt, e0, e255] at h
  have e : (nar .char y).toInt = y.toInt := by
    show y.toUInt32.toUInt16.toUInt32.toInt32.toInt = _
    omega
  exact Int32.toInt_inj.mp e
theorem own_n2 {y : Int32} (h : ¬ y < 0 ∧ ¬ (255 : Int32) < y) : ¬ nar .char y < 0 ∧ ¬ (255 : Int32) < nar .char y := by rw [own_nar h]; exact h
theorem own_l255 (x : Int64) : ¬ (x &&& (255 : Int64)).toInt32.toUInt32.toUInt16.toUInt32.toInt32 < 0 ∧ ¬ (255 : Int32) < (x &&& (255 : Int64)).toInt32.toUInt32.toUInt16.toUInt32.toInt32 := by
  have t : ∀ k : Fin 256, ¬ (Int64.ofNat k.val).toInt32.toUInt32.toUInt16.toUInt32.toInt32 < 0 ∧ ¬ (255 : Int32) < (Int64.ofNat k.val).toInt32.toUInt32.toUInt16.toUInt32.toInt32 := by decide +kernel
  have h : (x &&& 255).toBitVec.toNat < 256 := by
    simp only [Int64.toBitVec_and, BitVec.toNat_and]
    exact Nat.lt_succ_of_le Nat.and_le_right
  have e : (x &&& 255) = Int64.ofNat (x &&& 255).toBitVec.toNat := by
    apply Int64.toBitVec_inj.mp
    show _ = BitVec.ofNat 64 _
    rw [BitVec.ofNat_toNat]; simp
  rw [e]
  exact t ⟨_, h⟩
theorem own_seven {n : Int32} (h0 : ¬ (n &&& (7 : Int32)) = 0) (h1 : ¬ (n &&& (7 : Int32)) = 1) (h2 : ¬ (n &&& (7 : Int32)) = 2) (h3 : ¬ (n &&& (7 : Int32)) = 3) (h4 : ¬ (n &&& (7 : Int32)) = 4) (h5 : ¬ (n &&& (7 : Int32)) = 5) (h6 : ¬ (n &&& (7 : Int32)) = 6) : (n &&& (7 : Int32)) = 7 := by
  have q := c_and n 7 (by decide)
  obtain ⟨a, ea⟩ : ∃ a, a = n &&& (7 : Int32) := ⟨_, rfl⟩
  rw [← ea] at q h0 h1 h2 h3 h4 h5 h6 ⊢
  have e0 : (0 : Int32).toInt = 0 := rfl
  have e1 : (1 : Int32).toInt = 1 := rfl
  have e2 : (2 : Int32).toInt = 2 := rfl
  have e3 : (3 : Int32).toInt = 3 := rfl
  have e4 : (4 : Int32).toInt = 4 := rfl
  have e5 : (5 : Int32).toInt = 5 := rfl
  have e6 : (6 : Int32).toInt = 6 := rfl
  have e7 : (7 : Int32).toInt = 7 := rfl
  rw [← Int32.toInt_inj] at h0 h1 h2 h3 h4 h5 h6 ⊢
  omega
theorem own_pn042529 : plainFor (⟨"com/example/lorac/lorac/OperationNamedPinLaw", "tmpl", "(II)C"⟩ : MethodName) = true := by first | exact plainFor_of_name (by first | (simp [plainName, overriddenIn]; done) | decide +kernel) | decide +kernel
theorem own_dmethod_3_code_0 : decode method_3_code 0 = .ok (.iload_n 0, 1) := by decide +kernel
theorem own_dmethod_3_code_1 : decode method_3_code 1 = .ok (.iconst 1, 1) := by decide +kernel
theorem own_dmethod_3_code_2 : decode method_3_code 2 = .ok (.if_icmp .ne 25, 3) := by decide +kernel
theorem own_dmethod_3_code_5 : decode method_3_code 5 = .ok (.iload_n 1, 1) := by decide +kernel
theorem own_dmethod_3_code_6 : decode method_3_code 6 = .ok (.ifCond .ne 6, 3) := by decide +kernel
theorem own_dmethod_3_code_9 : decode method_3_code 9 = .ok (.bipush 97, 2) := by decide +kernel
theorem own_dmethod_3_code_11 : decode method_3_code 11 = .ok (.ireturn, 1) := by decide +kernel
theorem own_dmethod_3_code_27 : decode method_3_code 27 = .ok (.iload_n 0, 1) := by decide +kernel
theorem own_dmethod_3_code_28 : decode method_3_code 28 = .ok (.iconst 2, 1) := by decide +kernel
theorem own_dmethod_3_code_29 : decode method_3_code 29 = .ok (.if_icmp .ne 18, 3) := by decide +kernel
theorem own_dmethod_3_code_32 : decode method_3_code 32 = .ok (.iload_n 1, 1) := by decide +kernel
theorem own_dmethod_3_code_33 : decode method_3_code 33 = .ok (.bipush 6, 2) := by decide +kernel
theorem own_dmethod_3_code_35 : decode method_3_code 35 = .ok (.if_icmp .ge 10, 3) := by decide +kernel
theorem own_dmethod_3_code_38 : decode method_3_code 38 = .ok (.ldc 36, 2) := by decide +kernel
theorem own_dmethod_3_code_40 : decode method_3_code 40 = .ok (.iload_n 1, 1) := by decide +kernel
theorem own_dmethod_3_code_41 : decode method_3_code 41 = .ok (.invokevirtual 38, 3) := by decide +kernel
theorem own_dmethod_3_code_44 : decode method_3_code 44 = .ok (.ireturn, 1) := by decide +kernel
theorem own_dmethod_3_code_47 : decode method_3_code 47 = .ok (.iconst 0, 1) := by decide +kernel
theorem own_dmethod_3_code_48 : decode method_3_code 48 = .ok (.ireturn, 1) := by decide +kernel
theorem own_ef_own_tmpl0 (m : MethodId) (kd0 : Int32) : entryFrame m #[(.int kd0), (.int 0)] 2 = mkF m 0 #[iv kd0, iv 0] [] := by first | (simp [entryFrame, mkF, argsToLocals, Value.category]; done) | rfl
set_option maxRecDepth 65536 in
set_option maxHeartbeats 40000000 in
theorem own_tmpl0 (l : Launch) (Z : State) (a0 : Array Value) (H : own_Wld Z a0) {cw : List Jvm.Cond} (kd0 : Int32) (h0 : Heap) (O0 : Ext Z.heap h0) :
    Own.Con l Z consts_1 (⟨"com/example/lorac/lorac/OperationNamedPinLaw", "tmpl", "(II)C"⟩ : MethodName) method_3_code 2 (some .char) cw ({ frames := 4, cells := 2, slots := 28, locals := 53 } : Room) #[(.int kd0), (.int 0)] h0 (fun v h => Keep h0 h [] ∧ ∃ c : Int32, v = some (.int c) ∧ ¬ c < 0 ∧ ¬ (255 : Int32) < c) := by
  have hw := H.1
  have hW := fun (i : Nat) (w : Jvm.Cond) (e : tables_1[i]? = some w) => hw w (List.mem_of_getElem? e)
  have hCm := H.2.1
  have hSi := H.2.2.1
  have hEL := H.2.2.2
  have hWs : ∀ d ∈ StrChars.Road.words, d.before a0 Z = true := fun d hd => hw d (own_wbackV d hd)
  have hWc : ∀ d ∈ StrChars.Road.wordsChN, d.before a0 Z = true := fun d hd => hw d (own_wchN d hd)
  have hWe : ∀ d ∈ StrChars.Road.wordsEq, d.before a0 Z = true := fun d hd => hw d (own_weqW d hd)
  have hSA : ∀ d ∈ Bundle.stringAtoms, d.before a0 Z = true := fun d hd => hw d (own_wSA d hd)
  refine Own.Con.of own_pn042529 hEL O0 ?_
  intro p e s m below meth c T0 G vm0 hx hby hml hret hnm hG hR S0
  have hz : ∀ L : Array Slot, L.size = 2 → L.size = c.maxLocals := fun L q => q.trans hml.symm
  rw [own_ef_own_tmpl0]
  show G T0 (mkF m 0 #[iv kd0, iv 0] [])
  refine hG.st (fun t q => XS.iloadN S0.here hx rfl (hb hby own_dmethod_3_code_0) rfl (XS.iconst S0.here hx rfl (hb hby own_dmethod_3_code_1) q)) ?_
  show G T0 (mkF m 2 #[iv kd0, iv 0] [(.int 1), (.int kd0)])
  by_cases hc2 : kd0 = (1 : Int32)
  ·
    refine hG.st (fun t q => XS.icmpNo S0.here hx rfl (hb hby own_dmethod_3_code_2) rfl (teq hc2).2 (XS.iloadN S0.here hx rfl (hb hby own_dmethod_3_code_5) rfl (XS.ifNo S0.here hx rfl (hb hby own_dmethod_3_code_6) rfl ((if0 _ _).trans (teq (by decide : (0 : Int32) = (0 : Int32))).2) (XS.bipush S0.here hx rfl (hb hby own_dmethod_3_code_9) q)))) ?_
    show G T0 (mkF m 11 #[iv kd0, iv 0] [(.int 97)])
    exact Own.Sit.retN hR S0 hx (t := .char) hret (by simp) (hb hby own_dmethod_3_code_11) (by decide) (by decide) ⟨(Keep.refl _ _), _, rfl, by decide⟩
  ·
    refine hG.st (fun t q => XS.icmpYes S0.here hx rfl (pc0 := 2) (pc' := 27) rfl (hb hby own_dmethod_3_code_2) rfl (feq hc2).2 (by decide) (by decide) (XS.iloadN S0.here hx rfl (hb hby own_dmethod_3_code_27) rfl (XS.iconst S0.here hx rfl (hb hby own_dmethod_3_code_28) q))) ?_
    show G T0 (mkF m 29 #[iv kd0, iv 0] [(.int 2), (.int kd0)])
    by_cases hc29 : kd0 = (2 : Int32)
    ·
      refine hG.st (fun t q => XS.icmpNo S0.here hx rfl (hb hby own_dmethod_3_code_29) rfl (teq hc29).2 (XS.iloadN S0.here hx rfl (hb hby own_dmethod_3_code_32) rfl (XS.bipush S0.here hx rfl (hb hby own_dmethod_3_code_33) (XS.icmpNo S0.here hx rfl (hb hby own_dmethod_3_code_35) rfl (tlt (by decide : (0 : Int32) < (6 : Int32))).2.1 q)))) ?_
      show G T0 (mkF m 38 #[iv kd0, iv 0] [])
      refine Own.Sit.ldc hG S0 hx hEL (hW 89 _ rfl) hSA (by decide) (cs := ([100, 101, 108, 101, 116, 101] : List Int32)) ⟨by decide, by decide⟩ (by decide) (by decide) rfl (hb hby own_dmethod_3_code_38) (nn := 24) (by decide) (by decide) (by decide) (by decide) (fun vm28 T28 h28 x28 y28 S28 J28 St28 L28 => ?_)
      show G T28 (mkF m 40 #[iv kd0, iv 0] [(.ref x28)])
      refine hG.st (fun t q => XS.iloadN S28.here hx rfl (hb hby own_dmethod_3_code_40) rfl q) ?_
      show G T28 (mkF m 41 #[iv kd0, iv 0] [(.int 0), (.ref x28)])
      refine Own.Sit.strChar hG S28 hx hWc hCm hSi (hW 13 _ rfl) (hW 90 _ rfl) (hW 91 _ rfl) (hW 93 _ rfl) (hW 92 _ rfl) St28 (i := 0) (Nat.le_of_ble_eq_true rfl) rfl rfl (hz _ rfl) (rest := []) rfl (W := 0) (by show 2 * 0 + _ ≤ _; exact Nat.le_of_eq rfl) (hb hby own_dmethod_3_code_41) (by decide) (by decide) (by decide) (by decide) (fun T29 S29 => ?_)
      show G T29 (mkF m 44 #[iv kd0, iv 0] [(.int 100)])
      exact Own.Sit.retN hR S29 hx (t := .char) hret (by simp) (hb hby own_dmethod_3_code_44) (by decide) (by decide) ⟨J28.1, _, rfl, by decide⟩
    ·
      refine hG.st (fun t q => XS.icmpYes S0.here hx rfl (pc0 := 29) (pc' := 47) rfl (hb hby own_dmethod_3_code_29) rfl (feq hc29).2 (by decide) (by decide) (XS.iconst S0.here hx rfl (hb hby own_dmethod_3_code_47) q)) ?_
      show G T0 (mkF m 48 #[iv kd0, iv 0] [(.int 0)])
      exact Own.Sit.retN hR S0 hx (t := .char) hret (by simp) (hb hby own_dmethod_3_code_48) (by decide) (by decide) ⟨(Keep.refl _ _), _, rfl, by decide⟩
theorem own_pn0dd4ab : plainFor (⟨"com/example/lorac/lorac/OperationNamedPinLaw", "pick", "(IIJI)C"⟩ : MethodName) = true := by first | exact plainFor_of_name (by first | (simp [plainName, overriddenIn]; done) | decide +kernel) | decide +kernel
theorem own_pddbdafe : parseMethodDescriptor "(II)C" = some ⟨[.int, .int], some .char⟩ := by decide +kernel
theorem own_dmethod_4_code_0 : decode method_4_code 0 = .ok (.iload_n 0, 1) := by decide +kernel
theorem own_dmethod_4_code_1 : decode method_4_code 1 = .ok (.iload_n 1, 1) := by decide +kernel
theorem own_dmethod_4_code_2 : decode method_4_code 2 = .ok (.invokestatic 44, 3) := by decide +kernel
theorem own_dmethod_4_code_5 : decode method_4_code 5 = .ok (.istore 5, 2) := by decide +kernel
theorem own_dmethod_4_code_7 : decode method_4_code 7 = .ok (.lload_n 2, 1) := by decide +kernel
theorem own_dmethod_4_code_8 : decode method_4_code 8 = .ok (.bipush 8, 2) := by decide +kernel
theorem own_dmethod_4_code_10 : decode method_4_code 10 = .ok (.iload_n 1, 1) := by decide +kernel
theorem own_dmethod_4_code_11 : decode method_4_code 11 = .ok (.imul, 1) := by decide +kernel
theorem own_dmethod_4_code_12 : decode method_4_code 12 = .ok (.lushr, 1) := by decide +kernel
theorem own_dmethod_4_code_13 : decode method_4_code 13 = .ok (.ldc2_w 48, 3) := by decide +kernel
theorem own_dmethod_4_code_16 : decode method_4_code 16 = .ok (.land, 1) := by decide +kernel
theorem own_dmethod_4_code_17 : decode method_4_code 17 = .ok (.l2i, 1) := by decide +kernel
theorem own_dmethod_4_code_18 : decode method_4_code 18 = .ok (.i2c, 1) := by decide +kernel
theorem own_dmethod_4_code_19 : decode method_4_code 19 = .ok (.istore 6, 2) := by decide +kernel
theorem own_dmethod_4_code_21 : decode method_4_code 21 = .ok (.iload 5, 2) := by decide +kernel
theorem own_dmethod_4_code_23 : decode method_4_code 23 = .ok (.ifCond .eq 15, 3) := by decide +kernel
theorem own_dmethod_4_code_26 : decode method_4_code 26 = .ok (.iload 4, 2) := by decide +kernel
theorem own_dmethod_4_code_28 : decode method_4_code 28 = .ok (.iload_n 1, 1) := by decide +kernel
theorem own_dmethod_4_code_29 : decode method_4_code 29 = .ok (.iushr, 1) := by decide +kernel
theorem own_dmethod_4_code_30 : decode method_4_code 30 = .ok (.iconst 1, 1) := by decide +kernel
theorem own_dmethod_4_code_31 : decode method_4_code 31 = .ok (.iand, 1) := by decide +kernel
theorem own_dmethod_4_code_32 : decode method_4_code 32 = .ok (.ifCond .eq 6, 3) := by decide +kernel
theorem own_dmethod_4_code_35 : decode method_4_code 35 = .ok (.iload 5, 2) := by decide +kernel
theorem own_dmethod_4_code_37 : decode method_4_code 37 = .ok (.ireturn, 1) := by decide +kernel
theorem own_dmethod_4_code_38 : decode method_4_code 38 = .ok (.iload 6, 2) := by decide +kernel
theorem own_dmethod_4_code_40 : decode method_4_code 40 = .ok (.ireturn, 1) := by decide +kernel
theorem own_ef_own_pick0 (m : MethodId) (kd0 : Int32) (aa : Int64) (kp : Int32) : entryFrame m #[(.int kd0), (.int 0), (.long aa), (.int kp)] 7 = mkF m 0 #[iv kd0, iv 0, .val (.long aa), .second, iv kp, .unset, .unset] [] := by first | (simp [entryFrame, mkF, argsToLocals, Value.category]; done) | rfl
set_option maxRecDepth 65536 in
set_option maxHeartbeats 40000000 in
theorem own_pick0 (l : Launch) (Z : State) (a0 : Array Value) (H : own_Wld Z a0) {cw : List Jvm.Cond} (kd0 : Int32) (aa : Int64) (kp : Int32) (h0 : Heap) (O0 : Ext Z.heap h0) :
    Own.Con l Z consts_1 (⟨"com/example/lorac/lorac/OperationNamedPinLaw", "pick", "(IIJI)C"⟩ : MethodName) method_4_code 7 (some .char) cw ({ frames := 5, cells := 2, slots := 28, locals := 66 } : Room) #[(.int kd0), (.int 0), (.long aa), (.int kp)] h0 (fun v h => Keep h0 h [] ∧ ∃ c : Int32, v = some (.int c) ∧ ¬ c < 0 ∧ ¬ (255 : Int32) < c) := by
  have hw := H.1
  have hW := fun (i : Nat) (w : Jvm.Cond) (e : tables_1[i]? = some w) => hw w (List.mem_of_getElem? e)
  have hCm := H.2.1
  have hSi := H.2.2.1
  have hEL := H.2.2.2
  have hWs : ∀ d ∈ StrChars.Road.words, d.before a0 Z = true := fun d hd => hw d (own_wbackV d hd)
  have hWc : ∀ d ∈ StrChars.Road.wordsChN, d.before a0 Z = true := fun d hd => hw d (own_wchN d hd)
  have hWe : ∀ d ∈ StrChars.Road.wordsEq, d.before a0 Z = true := fun d hd => hw d (own_weqW d hd)
  have hSA : ∀ d ∈ Bundle.stringAtoms, d.before a0 Z = true := fun d hd => hw d (own_wSA d hd)
  refine Own.Con.of own_pn0dd4ab hEL O0 ?_
  intro p e s m below meth c T0 G vm0 hx hby hml hret hnm hG hR S0
  have hz : ∀ L : Array Slot, L.size = 7 → L.size = c.maxLocals := fun L q => q.trans hml.symm
  rw [own_ef_own_pick0]
  show G T0 (mkF m 0 #[iv kd0, iv 0, .val (.long aa), .second, iv kp, .unset, .unset] [])
  refine hG.st (fun t q => XS.iloadN S0.here hx rfl (hb hby own_dmethod_4_code_0) rfl (XS.iloadN S0.here hx rfl (hb hby own_dmethod_4_code_1) rfl q)) ?_
  show G T0 (mkF m 2 #[iv kd0, iv 0, .val (.long aa), .second, iv kp, .unset, .unset] [(.int 0), (.int kd0)])
  refine Own.Sit.callS hG S0 hx hEL (as := [(.int kd0), (.int 0)]) (hW 5 _ rfl) (hW 6 _ rfl) (hW 3 _ rfl) (hW 7 _ rfl) (by decide) (own_tmpl0 l Z a0 H kd0 h0 S0.old) own_pddbdafe rfl rfl (hz _ rfl) (rest := []) rfl (W := 0) (by show 2 * 0 + _ ≤ _; exact Nat.le_of_eq rfl) (hb hby own_dmethod_4_code_2) (by decide) (by decide) (by decide) (by decide) (fun v30 vm30 T30 h30 S30 C30 q30 => ?_)
  obtain ⟨K30, c30, rfl, r30⟩ := q30
  have J30 : Own.Stp Z consts_1 vm0 h0 vm30 h30 [] := ⟨K30, C30⟩
  show G T30 (mkF m 5 #[iv kd0, iv 0, .val (.long aa), .second, iv kp, .unset, .unset] [(.int c30)])
  refine hG.st (fun t q => XS.istore S30.here hx rfl (hb hby own_dmethod_4_code_5) rfl (l' := #[iv kd0, iv 0, .val (.long aa), .second, iv kp, iv c30, .unset]) rfl (XS.lloadN S30.here hx rfl (hb hby own_dmethod_4_code_7) rfl (XS.bipush S30.here hx rfl (hb hby own_dmethod_4_code_8) (XS.iloadN S30.here hx rfl (hb hby own_dmethod_4_code_10) rfl (XS.imul S30.here hx rfl (hb hby own_dmethod_4_code_11) rfl (XS.lushr S30.here hx rfl (hb hby own_dmethod_4_code_12) rfl q)))))) ?_
  show G T30 (mkF m 13 #[iv kd0, iv 0, .val (.long aa), .second, iv kp, iv c30, .unset] [(.long ((aa.toUInt64 >>> ((0 : Int32) &&& 0x3f).toInt64.toUInt64).toInt64))])
  refine Own.Sit.ldc2 hG S30 hx (hW 8 _ rfl) rfl (hb hby own_dmethod_4_code_13) ?_
  show G T30 (mkF m 16 #[iv kd0, iv 0, .val (.long aa), .second, iv kp, iv c30, .unset] [(.long (255 : Int64)), (.long ((aa.toUInt64 >>> ((0 : Int32) &&& 0x3f).toInt64.toUInt64).toInt64))])
  refine hG.st (fun t q => XS.land S30.here hx rfl (hb hby own_dmethod_4_code_16) rfl (XS.l2i S30.here hx rfl (hb hby own_dmethod_4_code_17) rfl (XS.i2c S30.here hx rfl (hb hby own_dmethod_4_code_18) rfl (XS.istore S30.here hx rfl (hb hby own_dmethod_4_code_19) rfl (l' := #[iv kd0, iv 0, .val (.long aa), .second, iv kp, iv c30, iv (((((aa.toUInt64 >>> ((0 : Int32) &&& 0x3f).toInt64.toUInt64).toInt64) &&& (255 : Int64)).toInt32).toUInt32.toUInt16.toUInt32.toInt32)]) rfl (XS.iload S30.here hx rfl (hb hby own_dmethod_4_code_21) rfl q))))) ?_
  show G T30 (mkF m 23 #[iv kd0, iv 0, .val (.long aa), .second, iv kp, iv c30, iv (((((aa.toUInt64 >>> ((0 : Int32) &&& 0x3f).toInt64.toUInt64).toInt64) &&& (255 : Int64)).toInt32).toUInt32.toUInt16.toUInt32.toInt32)] [(.int c30)])
  by_cases hc23 : c30 = (0 : Int32)
  ·
    refine hG.st (fun t q => XS.ifYes S30.here hx rfl (pc0 := 23) (pc' := 38) rfl (hb hby own_dmethod_4_code_23) rfl ((if0 _ _).trans (teq hc23).1) (by decide) (by decide) (XS.iload S30.here hx rfl (hb hby own_dmethod_4_code_38) rfl q)) ?_
    show G T30 (mkF m 40 #[iv kd0, iv 0, .val (.long aa), .second, iv kp, iv c30, iv (((((aa.toUInt64 >>> ((0 : Int32) &&& 0x3f).toInt64.toUInt64).toInt64) &&& (255 : Int64)).toInt32).toUInt32.toUInt16.toUInt32.toInt32)] [(.int (((((aa.toUInt64 >>> ((0 : Int32) &&& 0x3f).toInt64.toUInt64).toInt64) &&& (255 : Int64)).toInt32).toUInt32.toUInt16.toUInt32.toInt32))])
    exact Own.Sit.retN hR S30 hx (t := .char) hret (by simp) (hb hby own_dmethod_4_code_40) (by decide) (by decide) ⟨J30.1, _, rfl, own_n2 (own_l255 _)⟩
  ·
    refine hG.st (fun t q => XS.ifNo S30.here hx rfl (hb hby own_dmethod_4_code_23) rfl ((if0 _ _).trans (feq hc23).1) (XS.iload S30.here hx rfl (hb hby own_dmethod_4_code_26) rfl (XS.iloadN S30.here hx rfl (hb hby own_dmethod_4_code_28) rfl (XS.iushr S30.here hx rfl (hb hby own_dmethod_4_code_29) rfl (XS.iconst S30.here hx rfl (hb hby own_dmethod_4_code_30) (XS.iand S30.here hx rfl (hb hby own_dmethod_4_code_31) rfl q)))))) ?_
    show G T30 (mkF m 32 #[iv kd0, iv 0, .val (.long aa), .second, iv kp, iv c30, iv (((((aa.toUInt64 >>> ((0 : Int32) &&& 0x3f).toInt64.toUInt64).toInt64) &&& (255 : Int64)).toInt32).toUInt32.toUInt16.toUInt32.toInt32)] [(.int (((kp.toUInt32 >>> ((0 : Int32) &&& 31).toUInt32).toInt32) &&& (1 : Int32)))])
    by_cases hc32 : (((kp.toUInt32 >>> ((0 : Int32) &&& 31).toUInt32).toInt32) &&& (1 : Int32)) = (0 : Int32)
    ·
      refine hG.st (fun t q => XS.ifYes S30.here hx rfl (pc0 := 32) (pc' := 38) rfl (hb hby own_dmethod_4_code_32) rfl ((if0 _ _).trans (teq hc32).1) (by decide) (by decide) (XS.iload S30.here hx rfl (hb hby own_dmethod_4_code_38) rfl q)) ?_
      show G T30 (mkF m 40 #[iv kd0, iv 0, .val (.long aa), .second, iv kp, iv c30, iv (((((aa.toUInt64 >>> ((0 : Int32) &&& 0x3f).toInt64.toUInt64).toInt64) &&& (255 : Int64)).toInt32).toUInt32.toUInt16.toUInt32.toInt32)] [(.int (((((aa.toUInt64 >>> ((0 : Int32) &&& 0x3f).toInt64.toUInt64).toInt64) &&& (255 : Int64)).toInt32).toUInt32.toUInt16.toUInt32.toInt32))])
      exact Own.Sit.retN hR S30 hx (t := .char) hret (by simp) (hb hby own_dmethod_4_code_40) (by decide) (by decide) ⟨J30.1, _, rfl, own_n2 (own_l255 _)⟩
    ·
      refine hG.st (fun t q => XS.ifNo S30.here hx rfl (hb hby own_dmethod_4_code_32) rfl ((if0 _ _).trans (feq hc32).1) (XS.iload S30.here hx rfl (hb hby own_dmethod_4_code_35) rfl q)) ?_
      show G T30 (mkF m 37 #[iv kd0, iv 0, .val (.long aa), .second, iv kp, iv c30, iv (((((aa.toUInt64 >>> ((0 : Int32) &&& 0x3f).toInt64.toUInt64).toInt64) &&& (255 : Int64)).toInt32).toUInt32.toUInt16.toUInt32.toInt32)] [(.int c30)])
      exact Own.Sit.retN hR S30 hx (t := .char) hret (by simp) (hb hby own_dmethod_4_code_37) (by decide) (by decide) ⟨J30.1, _, rfl, own_n2 r30⟩
theorem own_dmethod_3_code_12 : decode method_3_code 12 = .ok (.iload_n 1, 1) := by decide +kernel
theorem own_dmethod_3_code_13 : decode method_3_code 13 = .ok (.iconst 1, 1) := by decide +kernel
theorem own_dmethod_3_code_14 : decode method_3_code 14 = .ok (.if_icmp .eq 8, 3) := by decide +kernel
theorem own_dmethod_3_code_22 : decode method_3_code 22 = .ok (.bipush 100, 2) := by decide +kernel
theorem own_dmethod_3_code_24 : decode method_3_code 24 = .ok (.ireturn, 1) := by decide +kernel
theorem own_ef_own_tmpl1 (m : MethodId) (kd0 : Int32) : entryFrame m #[(.int kd0), (.int 1)] 2 = mkF m 0 #[iv kd0, iv 1] [] := by first | (simp [entryFrame, mkF, argsToLocals, Value.category]; done) | rfl
set_option maxRecDepth 65536 in
set_option maxHeartbeats 40000000 in
theorem own_tmpl1 (l : Launch) (Z : State) (a0 : Array Value) (H : own_Wld Z a0) {cw : List Jvm.Cond} (kd0 : Int32) (h0 : Heap) (O0 : Ext Z.heap h0) :
    Own.Con l Z consts_1 (⟨"com/example/lorac/lorac/OperationNamedPinLaw", "tmpl", "(II)C"⟩ : MethodName) method_3_code 2 (some .char) cw ({ frames := 4, cells := 2, slots := 28, locals := 53 } : Room) #[(.int kd0), (.int 1)] h0 (fun v h => Keep h0 h [] ∧ ∃ c : Int32, v = some (.int c) ∧ ¬ c < 0 ∧ ¬ (255 : Int32) < c) := by
  have hw := H.1
  have hW := fun (i : Nat) (w : Jvm.Cond) (e : tables_1[i]? = some w) => hw w (List.mem_of_getElem? e)
  have hCm := H.2.1
  have hSi := H.2.2.1
  have hEL := H.2.2.2
  have hWs : ∀ d ∈ StrChars.Road.words, d.before a0 Z = true := fun d hd => hw d (own_wbackV d hd)
  have hWc : ∀ d ∈ StrChars.Road.wordsChN, d.before a0 Z = true := fun d hd => hw d (own_wchN d hd)
  have hWe : ∀ d ∈ StrChars.Road.wordsEq, d.before a0 Z = true := fun d hd => hw d (own_weqW d hd)
  have hSA : ∀ d ∈ Bundle.stringAtoms, d.before a0 Z = true := fun d hd => hw d (own_wSA d hd)
  refine Own.Con.of own_pn042529 hEL O0 ?_
  intro p e s m below meth c T0 G vm0 hx hby hml hret hnm hG hR S0
  have hz : ∀ L : Array Slot, L.size = 2 → L.size = c.maxLocals := fun L q => q.trans hml.symm
  rw [own_ef_own_tmpl1]
  show G T0 (mkF m 0 #[iv kd0, iv 1] [])
  refine hG.st (fun t q => XS.iloadN S0.here hx rfl (hb hby own_dmethod_3_code_0) rfl (XS.iconst S0.here hx rfl (hb hby own_dmethod_3_code_1) q)) ?_
  show G T0 (mkF m 2 #[iv kd0, iv 1] [(.int 1), (.int kd0)])
  by_cases hc2 : kd0 = (1 : Int32)
  ·
    refine hG.st (fun t q => XS.icmpNo S0.here hx rfl (hb hby own_dmethod_3_code_2) rfl (teq hc2).2 (XS.iloadN S0.here hx rfl (hb hby own_dmethod_3_code_5) rfl (XS.ifYes S0.here hx rfl (pc0 := 6) (pc' := 12) rfl (hb hby own_dmethod_3_code_6) rfl ((if0 _ _).trans (feq (by decide : ¬ ((1 : Int32) = (0 : Int32)))).2) (by decide) (by decide) (XS.iloadN S0.here hx rfl (hb hby own_dmethod_3_code_12) rfl (XS.iconst S0.here hx rfl (hb hby own_dmethod_3_code_13) (XS.icmpYes S0.here hx rfl (pc0 := 14) (pc' := 22) rfl (hb hby own_dmethod_3_code_14) rfl (teq (by decide : (1 : Int32) = (1 : Int32))).1 (by decide) (by decide) q)))))) ?_
    show G T0 (mkF m 22 #[iv kd0, iv 1] [])
    refine hG.st (fun t q => XS.bipush S0.here hx rfl (hb hby own_dmethod_3_code_22) q) ?_
    show G T0 (mkF m 24 #[iv kd0, iv 1] [(.int 100)])
    exact Own.Sit.retN hR S0 hx (t := .char) hret (by simp) (hb hby own_dmethod_3_code_24) (by decide) (by decide) ⟨(Keep.refl _ _), _, rfl, by decide⟩
  ·
    refine hG.st (fun t q => XS.icmpYes S0.here hx rfl (pc0 := 2) (pc' := 27) rfl (hb hby own_dmethod_3_code_2) rfl (feq hc2).2 (by decide) (by decide) (XS.iloadN S0.here hx rfl (hb hby own_dmethod_3_code_27) rfl (XS.iconst S0.here hx rfl (hb hby own_dmethod_3_code_28) q))) ?_
    show G T0 (mkF m 29 #[iv kd0, iv 1] [(.int 2), (.int kd0)])
    by_cases hc29 : kd0 = (2 : Int32)
    ·
      refine hG.st (fun t q => XS.icmpNo S0.here hx rfl (hb hby own_dmethod_3_code_29) rfl (teq hc29).2 (XS.iloadN S0.here hx rfl (hb hby own_dmethod_3_code_32) rfl (XS.bipush S0.here hx rfl (hb hby own_dmethod_3_code_33) (XS.icmpNo S0.here hx rfl (hb hby own_dmethod_3_code_35) rfl (tlt (by decide : (1 : Int32) < (6 : Int32))).2.1 q)))) ?_
      show G T0 (mkF m 38 #[iv kd0, iv 1] [])
      refine Own.Sit.ldc hG S0 hx hEL (hW 89 _ rfl) hSA (by decide) (cs := ([100, 101, 108, 101, 116, 101] : List Int32)) ⟨by decide, by decide⟩ (by decide) (by decide) rfl (hb hby own_dmethod_3_code_38) (nn := 24) (by decide) (by decide) (by decide) (by decide) (fun vm31 T31 h31 x31 y31 S31 J31 St31 L31 => ?_)
      show G T31 (mkF m 40 #[iv kd0, iv 1] [(.ref x31)])
      refine hG.st (fun t q => XS.iloadN S31.here hx rfl (hb hby own_dmethod_3_code_40) rfl q) ?_
      show G T31 (mkF m 41 #[iv kd0, iv 1] [(.int 1), (.ref x31)])
      refine Own.Sit.strChar hG S31 hx hWc hCm hSi (hW 13 _ rfl) (hW 90 _ rfl) (hW 91 _ rfl) (hW 93 _ rfl) (hW 92 _ rfl) St31 (i := 1) (Nat.le_of_ble_eq_true rfl) rfl rfl (hz _ rfl) (rest := []) rfl (W := 0) (by show 2 * 0 + _ ≤ _; exact Nat.le_of_eq rfl) (hb hby own_dmethod_3_code_41) (by decide) (by decide) (by decide) (by decide) (fun T32 S32 => ?_)
      show G T32 (mkF m 44 #[iv kd0, iv 1] [(.int 101)])
      exact Own.Sit.retN hR S32 hx (t := .char) hret (by simp) (hb hby own_dmethod_3_code_44) (by decide) (by decide) ⟨J31.1, _, rfl, by decide⟩
    ·
      refine hG.st (fun t q => XS.icmpYes S0.here hx rfl (pc0 := 29) (pc' := 47) rfl (hb hby own_dmethod_3_code_29) rfl (feq hc29).2 (by decide) (by decide) (XS.iconst S0.here hx rfl (hb hby own_dmethod_3_code_47) q)) ?_
      show G T0 (mkF m 48 #[iv kd0, iv 1] [(.int 0)])
      exact Own.Sit.retN hR S0 hx (t := .char) hret (by simp) (hb hby own_dmethod_3_code_48) (by decide) (by decide) ⟨(Keep.refl _ _), _, rfl, by decide⟩
theorem own_ef_own_pick1 (m : MethodId) (kd0 : Int32) (aa : Int64) (kp : Int32) : entryFrame m #[(.int kd0), (.int 1), (.long aa), (.int kp)] 7 = mkF m 0 #[iv kd0, iv 1, .val (.long aa), .second, iv kp, .unset, .unset] [] := by first | (simp [entryFrame, mkF, argsToLocals, Value.category]; done) | rfl
set_option maxRecDepth 65536 in
set_option maxHeartbeats 40000000 in
theorem own_pick1 (l : Launch) (Z : State) (a0 : Array Value) (H : own_Wld Z a0) {cw : List Jvm.Cond} (kd0 : Int32) (aa : Int64) (kp : Int32) (h0 : Heap) (O0 : Ext Z.heap h0) :
    Own.Con l Z consts_1 (⟨"com/example/lorac/lorac/OperationNamedPinLaw", "pick", "(IIJI)C"⟩ : MethodName) method_4_code 7 (some .char) cw ({ frames := 5, cells := 2, slots := 28, locals := 66 } : Room) #[(.int kd0), (.int 1), (.long aa), (.int kp)] h0 (fun v h => Keep h0 h [] ∧ ∃ c : Int32, v = some (.int c) ∧ ¬ c < 0 ∧ ¬ (255 : Int32) < c) := by
  have hw := H.1
  have hW := fun (i : Nat) (w : Jvm.Cond) (e : tables_1[i]? = some w) => hw w (List.mem_of_getElem? e)
  have hCm := H.2.1
  have hSi := H.2.2.1
  have hEL := H.2.2.2
  have hWs : ∀ d ∈ StrChars.Road.words, d.before a0 Z = true := fun d hd => hw d (own_wbackV d hd)
  have hWc : ∀ d ∈ StrChars.Road.wordsChN, d.before a0 Z = true := fun d hd => hw d (own_wchN d hd)
  have hWe : ∀ d ∈ StrChars.Road.wordsEq, d.before a0 Z = true := fun d hd => hw d (own_weqW d hd)
  have hSA : ∀ d ∈ Bundle.stringAtoms, d.before a0 Z = true := fun d hd => hw d (own_wSA d hd)
  refine Own.Con.of own_pn0dd4ab hEL O0 ?_
  intro p e s m below meth c T0 G vm0 hx hby hml hret hnm hG hR S0
  have hz : ∀ L : Array Slot, L.size = 7 → L.size = c.maxLocals := fun L q => q.trans hml.symm
  rw [own_ef_own_pick1]
  show G T0 (mkF m 0 #[iv kd0, iv 1, .val (.long aa), .second, iv kp, .unset, .unset] [])
  refine hG.st (fun t q => XS.iloadN S0.here hx rfl (hb hby own_dmethod_4_code_0) rfl (XS.iloadN S0.here hx rfl (hb hby own_dmethod_4_code_1) rfl q)) ?_
  show G T0 (mkF m 2 #[iv kd0, iv 1, .val (.long aa), .second, iv kp, .unset, .unset] [(.int 1), (.int kd0)])
  refine Own.Sit.callS hG S0 hx hEL (as := [(.int kd0), (.int 1)]) (hW 5 _ rfl) (hW 6 _ rfl) (hW 3 _ rfl) (hW 7 _ rfl) (by decide) (own_tmpl1 l Z a0 H kd0 h0 S0.old) own_pddbdafe rfl rfl (hz _ rfl) (rest := []) rfl (W := 0) (by show 2 * 0 + _ ≤ _; exact Nat.le_of_eq rfl) (hb hby own_dmethod_4_code_2) (by decide) (by decide) (by decide) (by decide) (fun v33 vm33 T33 h33 S33 C33 q33 => ?_)
  obtain ⟨K33, c33, rfl, r33⟩ := q33
  have J33 : Own.Stp Z consts_1 vm0 h0 vm33 h33 [] := ⟨K33, C33⟩
  show G T33 (mkF m 5 #[iv kd0, iv 1, .val (.long aa), .second, iv kp, .unset, .unset] [(.int c33)])
  refine hG.st (fun t q => XS.istore S33.here hx rfl (hb hby own_dmethod_4_code_5) rfl (l' := #[iv kd0, iv 1, .val (.long aa), .second, iv kp, iv c33, .unset]) rfl (XS.lloadN S33.here hx rfl (hb hby own_dmethod_4_code_7) rfl (XS.bipush S33.here hx rfl (hb hby own_dmethod_4_code_8) (XS.iloadN S33.here hx rfl (hb hby own_dmethod_4_code_10) rfl (XS.imul S33.here hx rfl (hb hby own_dmethod_4_code_11) rfl (XS.lushr S33.here hx rfl (hb hby own_dmethod_4_code_12) rfl q)))))) ?_
  show G T33 (mkF m 13 #[iv kd0, iv 1, .val (.long aa), .second, iv kp, iv c33, .unset] [(.long ((aa.toUInt64 >>> ((8 : Int32) &&& 0x3f).toInt64.toUInt64).toInt64))])
  refine Own.Sit.ldc2 hG S33 hx (hW 8 _ rfl) rfl (hb hby own_dmethod_4_code_13) ?_
  show G T33 (mkF m 16 #[iv kd0, iv 1, .val (.long aa), .second, iv kp, iv c33, .unset] [(.long (255 : Int64)), (.long ((aa.toUInt64 >>> ((8 : Int32) &&& 0x3f).toInt64.toUInt64).toInt64))])
  refine hG.st (fun t q => XS.land S33.here hx rfl (hb hby own_dmethod_4_code_16) rfl (XS.l2i S33.here hx rfl (hb hby own_dmethod_4_code_17) rfl (XS.i2c S33.here hx rfl (hb hby own_dmethod_4_code_18) rfl (XS.istore S33.here hx rfl (hb hby own_dmethod_4_code_19) rfl (l' := #[iv kd0, iv 1, .val (.long aa), .second, iv kp, iv c33, iv (((((aa.toUInt64 >>> ((8 : Int32) &&& 0x3f).toInt64.toUInt64).toInt64) &&& (255 : Int64)).toInt32).toUInt32.toUInt16.toUInt32.toInt32)]) rfl (XS.iload S33.here hx rfl (hb hby own_dmethod_4_code_21) rfl q))))) ?_
  show G T33 (mkF m 23 #[iv kd0, iv 1, .val (.long aa), .second, iv kp, iv c33, iv (((((aa.toUInt64 >>> ((8 : Int32) &&& 0x3f).toInt64.toUInt64).toInt64) &&& (255 : Int64)).toInt32).toUInt32.toUInt16.toUInt32.toInt32)] [(.int c33)])
  by_cases hc23 : c33 = (0 : Int32)
  ·
    refine hG.st (fun t q => XS.ifYes S33.here hx rfl (pc0 := 23) (pc' := 38) rfl (hb hby own_dmethod_4_code_23) rfl ((if0 _ _).trans (teq hc23).1) (by decide) (by decide) (XS.iload S33.here hx rfl (hb hby own_dmethod_4_code_38) rfl q)) ?_
    show G T33 (mkF m 40 #[iv kd0, iv 1, .val (.long aa), .second, iv kp, iv c33, iv (((((aa.toUInt64 >>> ((8 : Int32) &&& 0x3f).toInt64.toUInt64).toInt64) &&& (255 : Int64)).toInt32).toUInt32.toUInt16.toUInt32.toInt32)] [(.int (((((aa.toUInt64 >>> ((8 : Int32) &&& 0x3f).toInt64.toUInt64).toInt64) &&& (255 : Int64)).toInt32).toUInt32.toUInt16.toUInt32.toInt32))])
    exact Own.Sit.retN hR S33 hx (t := .char) hret (by simp) (hb hby own_dmethod_4_code_40) (by decide) (by decide) ⟨J33.1, _, rfl, own_n2 (own_l255 _)⟩
  ·
    refine hG.st (fun t q => XS.ifNo S33.here hx rfl (hb hby own_dmethod_4_code_23) rfl ((if0 _ _).trans (feq hc23).1) (XS.iload S33.here hx rfl (hb hby own_dmethod_4_code_26) rfl (XS.iloadN S33.here hx rfl (hb hby own_dmethod_4_code_28) rfl (XS.iushr S33.here hx rfl (hb hby own_dmethod_4_code_29) rfl (XS.iconst S33.here hx rfl (hb hby own_dmethod_4_code_30) (XS.iand S33.here hx rfl (hb hby own_dmethod_4_code_31) rfl q)))))) ?_
    show G T33 (mkF m 32 #[iv kd0, iv 1, .val (.long aa), .second, iv kp, iv c33, iv (((((aa.toUInt64 >>> ((8 : Int32) &&& 0x3f).toInt64.toUInt64).toInt64) &&& (255 : Int64)).toInt32).toUInt32.toUInt16.toUInt32.toInt32)] [(.int (((kp.toUInt32 >>> ((1 : Int32) &&& 31).toUInt32).toInt32) &&& (1 : Int32)))])
    by_cases hc32 : (((kp.toUInt32 >>> ((1 : Int32) &&& 31).toUInt32).toInt32) &&& (1 : Int32)) = (0 : Int32)
    ·
      refine hG.st (fun t q => XS.ifYes S33.here hx rfl (pc0 := 32) (pc' := 38) rfl (hb hby own_dmethod_4_code_32) rfl ((if0 _ _).trans (teq hc32).1) (by decide) (by decide) (XS.iload S33.here hx rfl (hb hby own_dmethod_4_code_38) rfl q)) ?_
      show G T33 (mkF m 40 #[iv kd0, iv 1, .val (.long aa), .second, iv kp, iv c33, iv (((((aa.toUInt64 >>> ((8 : Int32) &&& 0x3f).toInt64.toUInt64).toInt64) &&& (255 : Int64)).toInt32).toUInt32.toUInt16.toUInt32.toInt32)] [(.int (((((aa.toUInt64 >>> ((8 : Int32) &&& 0x3f).toInt64.toUInt64).toInt64) &&& (255 : Int64)).toInt32).toUInt32.toUInt16.toUInt32.toInt32))])
      exact Own.Sit.retN hR S33 hx (t := .char) hret (by simp) (hb hby own_dmethod_4_code_40) (by decide) (by decide) ⟨J33.1, _, rfl, own_n2 (own_l255 _)⟩
    ·
      refine hG.st (fun t q => XS.ifNo S33.here hx rfl (hb hby own_dmethod_4_code_32) rfl ((if0 _ _).trans (feq hc32).1) (XS.iload S33.here hx rfl (hb hby own_dmethod_4_code_35) rfl q)) ?_
      show G T33 (mkF m 37 #[iv kd0, iv 1, .val (.long aa), .second, iv kp, iv c33, iv (((((aa.toUInt64 >>> ((8 : Int32) &&& 0x3f).toInt64.toUInt64).toInt64) &&& (255 : Int64)).toInt32).toUInt32.toUInt16.toUInt32.toInt32)] [(.int c33)])
      exact Own.Sit.retN hR S33 hx (t := .char) hret (by simp) (hb hby own_dmethod_4_code_37) (by decide) (by decide) ⟨J33.1, _, rfl, own_n2 r33⟩
theorem own_dmethod_3_code_17 : decode method_3_code 17 = .ok (.iload_n 1, 1) := by decide +kernel
theorem own_dmethod_3_code_18 : decode method_3_code 18 = .ok (.iconst 2, 1) := by decide +kernel
theorem own_dmethod_3_code_19 : decode method_3_code 19 = .ok (.if_icmp .ne 6, 3) := by decide +kernel
theorem own_ef_own_tmpl2 (m : MethodId) (kd0 : Int32) : entryFrame m #[(.int kd0), (.int 2)] 2 = mkF m 0 #[iv kd0, iv 2] [] := by first | (simp [entryFrame, mkF, argsToLocals, Value.category]; done) | rfl
set_option maxRecDepth 65536 in
set_option maxHeartbeats 40000000 in
theorem own_tmpl2 (l : Launch) (Z : State) (a0 : Array Value) (H : own_Wld Z a0) {cw : List Jvm.Cond} (kd0 : Int32) (h0 : Heap) (O0 : Ext Z.heap h0) :
    Own.Con l Z consts_1 (⟨"com/example/lorac/lorac/OperationNamedPinLaw", "tmpl", "(II)C"⟩ : MethodName) method_3_code 2 (some .char) cw ({ frames := 4, cells := 2, slots := 28, locals := 53 } : Room) #[(.int kd0), (.int 2)] h0 (fun v h => Keep h0 h [] ∧ ∃ c : Int32, v = some (.int c) ∧ ¬ c < 0 ∧ ¬ (255 : Int32) < c) := by
  have hw := H.1
  have hW := fun (i : Nat) (w : Jvm.Cond) (e : tables_1[i]? = some w) => hw w (List.mem_of_getElem? e)
  have hCm := H.2.1
  have hSi := H.2.2.1
  have hEL := H.2.2.2
  have hWs : ∀ d ∈ StrChars.Road.words, d.before a0 Z = true := fun d hd => hw d (own_wbackV d hd)
  have hWc : ∀ d ∈ StrChars.Road.wordsChN, d.before a0 Z = true := fun d hd => hw d (own_wchN d hd)
  have hWe : ∀ d ∈ StrChars.Road.wordsEq, d.before a0 Z = true := fun d hd => hw d (own_weqW d hd)
  have hSA : ∀ d ∈ Bundle.stringAtoms, d.before a0 Z = true := fun d hd => hw d (own_wSA d hd)
  refine Own.Con.of own_pn042529 hEL O0 ?_
  intro p e s m below meth c T0 G vm0 hx hby hml hret hnm hG hR S0
  have hz : ∀ L : Array Slot, L.size = 2 → L.size = c.maxLocals := fun L q => q.trans hml.symm
  rw [own_ef_own_tmpl2]
  show G T0 (mkF m 0 #[iv kd0, iv 2] [])
  refine hG.st (fun t q => XS.iloadN S0.here hx rfl (hb hby own_dmethod_3_code_0) rfl (XS.iconst S0.here hx rfl (hb hby own_dmethod_3_code_1) q)) ?_
  show G T0 (mkF m 2 #[iv kd0, iv 2] [(.int 1), (.int kd0)])
  by_cases hc2 : kd0 = (1 : Int32)
  ·
    refine hG.st (fun t q => XS.icmpNo S0.here hx rfl (hb hby own_dmethod_3_code_2) rfl (teq hc2).2 (XS.iloadN S0.here hx rfl (hb hby own_dmethod_3_code_5) rfl (XS.ifYes S0.here hx rfl (pc0 := 6) (pc' := 12) rfl (hb hby own_dmethod_3_code_6) rfl ((if0 _ _).trans (feq (by decide : ¬ ((2 : Int32) = (0 : Int32)))).2) (by decide) (by decide) (XS.iloadN S0.here hx rfl (hb hby own_dmethod_3_code_12) rfl (XS.iconst S0.here hx rfl (hb hby own_dmethod_3_code_13) (XS.icmpNo S0.here hx rfl (hb hby own_dmethod_3_code_14) rfl (feq (by decide : ¬ ((2 : Int32) = (1 : Int32)))).1 q)))))) ?_
    show G T0 (mkF m 17 #[iv kd0, iv 2] [])
    refine hG.st (fun t q => XS.iloadN S0.here hx rfl (hb hby own_dmethod_3_code_17) rfl (XS.iconst S0.here hx rfl (hb hby own_dmethod_3_code_18) (XS.icmpNo S0.here hx rfl (hb hby own_dmethod_3_code_19) rfl (teq (by decide : (2 : Int32) = (2 : Int32))).2 (XS.bipush S0.here hx rfl (hb hby own_dmethod_3_code_22) q)))) ?_
    show G T0 (mkF m 24 #[iv kd0, iv 2] [(.int 100)])
    exact Own.Sit.retN hR S0 hx (t := .char) hret (by simp) (hb hby own_dmethod_3_code_24) (by decide) (by decide) ⟨(Keep.refl _ _), _, rfl, by decide⟩
  ·
    refine hG.st (fun t q => XS.icmpYes S0.here hx rfl (pc0 := 2) (pc' := 27) rfl (hb hby own_dmethod_3_code_2) rfl (feq hc2).2 (by decide) (by decide) (XS.iloadN S0.here hx rfl (hb hby own_dmethod_3_code_27) rfl (XS.iconst S0.here hx rfl (hb hby own_dmethod_3_code_28) q))) ?_
    show G T0 (mkF m 29 #[iv kd0, iv 2] [(.int 2), (.int kd0)])
    by_cases hc29 : kd0 = (2 : Int32)
    ·
      refine hG.st (fun t q => XS.icmpNo S0.here hx rfl (hb hby own_dmethod_3_code_29) rfl (teq hc29).2 (XS.iloadN S0.here hx rfl (hb hby own_dmethod_3_code_32) rfl (XS.bipush S0.here hx rfl (hb hby own_dmethod_3_code_33) (XS.icmpNo S0.here hx rfl (hb hby own_dmethod_3_code_35) rfl (tlt (by decide : (2 : Int32) < (6 : Int32))).2.1 q)))) ?_
      show G T0 (mkF m 38 #[iv kd0, iv 2] [])
      refine Own.Sit.ldc hG S0 hx hEL (hW 89 _ rfl) hSA (by decide) (cs := ([100, 101, 108, 101, 116, 101] : List Int32)) ⟨by decide, by decide⟩ (by decide) (by decide) rfl (hb hby own_dmethod_3_code_38) (nn := 24) (by decide) (by decide) (by decide) (by decide) (fun vm34 T34 h34 x34 y34 S34 J34 St34 L34 => ?_)
      show G T34 (mkF m 40 #[iv kd0, iv 2] [(.ref x34)])
      refine hG.st (fun t q => XS.iloadN S34.here hx rfl (hb hby own_dmethod_3_code_40) rfl q) ?_
      show G T34 (mkF m 41 #[iv kd0, iv 2] [(.int 2), (.ref x34)])
      refine Own.Sit.strChar hG S34 hx hWc hCm hSi (hW 13 _ rfl) (hW 90 _ rfl) (hW 91 _ rfl) (hW 93 _ rfl) (hW 92 _ rfl) St34 (i := 2) (Nat.le_of_ble_eq_true rfl) rfl rfl (hz _ rfl) (rest := []) rfl (W := 0) (by show 2 * 0 + _ ≤ _; exact Nat.le_of_eq rfl) (hb hby own_dmethod_3_code_41) (by decide) (by decide) (by decide) (by decide) (fun T35 S35 => ?_)
      show G T35 (mkF m 44 #[iv kd0, iv 2] [(.int 108)])
      exact Own.Sit.retN hR S35 hx (t := .char) hret (by simp) (hb hby own_dmethod_3_code_44) (by decide) (by decide) ⟨J34.1, _, rfl, by decide⟩
    ·
      refine hG.st (fun t q => XS.icmpYes S0.here hx rfl (pc0 := 29) (pc' := 47) rfl (hb hby own_dmethod_3_code_29) rfl (feq hc29).2 (by decide) (by decide) (XS.iconst S0.here hx rfl (hb hby own_dmethod_3_code_47) q)) ?_
      show G T0 (mkF m 48 #[iv kd0, iv 2] [(.int 0)])
      exact Own.Sit.retN hR S0 hx (t := .char) hret (by simp) (hb hby own_dmethod_3_code_48) (by decide) (by decide) ⟨(Keep.refl _ _), _, rfl, by decide⟩
theorem own_ef_own_pick2 (m : MethodId) (kd0 : Int32) (aa : Int64) (kp : Int32) : entryFrame m #[(.int kd0), (.int 2), (.long aa), (.int kp)] 7 = mkF m 0 #[iv kd0, iv 2, .val (.long aa), .second, iv kp, .unset, .unset] [] := by first | (simp [entryFrame, mkF, argsToLocals, Value.category]; done) | rfl
set_option maxRecDepth 65536 in
set_option maxHeartbeats 40000000 in
theorem own_pick2 (l : Launch) (Z : State) (a0 : Array Value) (H : own_Wld Z a0) {cw : List Jvm.Cond} (kd0 : Int32) (aa : Int64) (kp : Int32) (h0 : Heap) (O0 : Ext Z.heap h0) :
    Own.Con l Z consts_1 (⟨"com/example/lorac/lorac/OperationNamedPinLaw", "pick", "(IIJI)C"⟩ : MethodName) method_4_code 7 (some .char) cw ({ frames := 5, cells := 2, slots := 28, locals := 66 } : Room) #[(.int kd0), (.int 2), (.long aa), (.int kp)] h0 (fun v h => Keep h0 h [] ∧ ∃ c : Int32, v = some (.int c) ∧ ¬ c < 0 ∧ ¬ (255 : Int32) < c) := by
  have hw := H.1
  have hW := fun (i : Nat) (w : Jvm.Cond) (e : tables_1[i]? = some w) => hw w (List.mem_of_getElem? e)
  have hCm := H.2.1
  have hSi := H.2.2.1
  have hEL := H.2.2.2
  have hWs : ∀ d ∈ StrChars.Road.words, d.before a0 Z = true := fun d hd => hw d (own_wbackV d hd)
  have hWc : ∀ d ∈ StrChars.Road.wordsChN, d.before a0 Z = true := fun d hd => hw d (own_wchN d hd)
  have hWe : ∀ d ∈ StrChars.Road.wordsEq, d.before a0 Z = true := fun d hd => hw d (own_weqW d hd)
  have hSA : ∀ d ∈ Bundle.stringAtoms, d.before a0 Z = true := fun d hd => hw d (own_wSA d hd)
  refine Own.Con.of own_pn0dd4ab hEL O0 ?_
  intro p e s m below meth c T0 G vm0 hx hby hml hret hnm hG hR S0
  have hz : ∀ L : Array Slot, L.size = 7 → L.size = c.maxLocals := fun L q => q.trans hml.symm
  rw [own_ef_own_pick2]
  show G T0 (mkF m 0 #[iv kd0, iv 2, .val (.long aa), .second, iv kp, .unset, .unset] [])
  refine hG.st (fun t q => XS.iloadN S0.here hx rfl (hb hby own_dmethod_4_code_0) rfl (XS.iloadN S0.here hx rfl (hb hby own_dmethod_4_code_1) rfl q)) ?_
  show G T0 (mkF m 2 #[iv kd0, iv 2, .val (.long aa), .second, iv kp, .unset, .unset] [(.int 2), (.int kd0)])
  refine Own.Sit.callS hG S0 hx hEL (as := [(.int kd0), (.int 2)]) (hW 5 _ rfl) (hW 6 _ rfl) (hW 3 _ rfl) (hW 7 _ rfl) (by decide) (own_tmpl2 l Z a0 H kd0 h0 S0.old) own_pddbdafe rfl rfl (hz _ rfl) (rest := []) rfl (W := 0) (by show 2 * 0 + _ ≤ _; exact Nat.le_of_eq rfl) (hb hby own_dmethod_4_code_2) (by decide) (by decide) (by decide) (by decide) (fun v36 vm36 T36 h36 S36 C36 q36 => ?_)
  obtain ⟨K36, c36, rfl, r36⟩ := q36
  have J36 : Own.Stp Z consts_1 vm0 h0 vm36 h36 [] := ⟨K36, C36⟩
  show G T36 (mkF m 5 #[iv kd0, iv 2, .val (.long aa), .second, iv kp, .unset, .unset] [(.int c36)])
  refine hG.st (fun t q => XS.istore S36.here hx rfl (hb hby own_dmethod_4_code_5) rfl (l' := #[iv kd0, iv 2, .val (.long aa), .second, iv kp, iv c36, .unset]) rfl (XS.lloadN S36.here hx rfl (hb hby own_dmethod_4_code_7) rfl (XS.bipush S36.here hx rfl (hb hby own_dmethod_4_code_8) (XS.iloadN S36.here hx rfl (hb hby own_dmethod_4_code_10) rfl (XS.imul S36.here hx rfl (hb hby own_dmethod_4_code_11) rfl (XS.lushr S36.here hx rfl (hb hby own_dmethod_4_code_12) rfl q)))))) ?_
  show G T36 (mkF m 13 #[iv kd0, iv 2, .val (.long aa), .second, iv kp, iv c36, .unset] [(.long ((aa.toUInt64 >>> ((16 : Int32) &&& 0x3f).toInt64.toUInt64).toInt64))])
  refine Own.Sit.ldc2 hG S36 hx (hW 8 _ rfl) rfl (hb hby own_dmethod_4_code_13) ?_
  show G T36 (mkF m 16 #[iv kd0, iv 2, .val (.long aa), .second, iv kp, iv c36, .unset] [(.long (255 : Int64)), (.long ((aa.toUInt64 >>> ((16 : Int32) &&& 0x3f).toInt64.toUInt64).toInt64))])
  refine hG.st (fun t q => XS.land S36.here hx rfl (hb hby own_dmethod_4_code_16) rfl (XS.l2i S36.here hx rfl (hb hby own_dmethod_4_code_17) rfl (XS.i2c S36.here hx rfl (hb hby own_dmethod_4_code_18) rfl (XS.istore S36.here hx rfl (hb hby own_dmethod_4_code_19) rfl (l' := #[iv kd0, iv 2, .val (.long aa), .second, iv kp, iv c36, iv (((((aa.toUInt64 >>> ((16 : Int32) &&& 0x3f).toInt64.toUInt64).toInt64) &&& (255 : Int64)).toInt32).toUInt32.toUInt16.toUInt32.toInt32)]) rfl (XS.iload S36.here hx rfl (hb hby own_dmethod_4_code_21) rfl q))))) ?_
  show G T36 (mkF m 23 #[iv kd0, iv 2, .val (.long aa), .second, iv kp, iv c36, iv (((((aa.toUInt64 >>> ((16 : Int32) &&& 0x3f).toInt64.toUInt64).toInt64) &&& (255 : Int64)).toInt32).toUInt32.toUInt16.toUInt32.toInt32)] [(.int c36)])
  by_cases hc23 : c36 = (0 : Int32)
  ·
    refine hG.st (fun t q => XS.ifYes S36.here hx rfl (pc0 := 23) (pc' := 38) rfl (hb hby own_dmethod_4_code_23) rfl ((if0 _ _).trans (teq hc23).1) (by decide) (by decide) (XS.iload S36.here hx rfl (hb hby own_dmethod_4_code_38) rfl q)) ?_
    show G T36 (mkF m 40 #[iv kd0, iv 2, .val (.long aa), .second, iv kp, iv c36, iv (((((aa.toUInt64 >>> ((16 : Int32) &&& 0x3f).toInt64.toUInt64).toInt64) &&& (255 : Int64)).toInt32).toUInt32.toUInt16.toUInt32.toInt32)] [(.int (((((aa.toUInt64 >>> ((16 : Int32) &&& 0x3f).toInt64.toUInt64).toInt64) &&& (255 : Int64)).toInt32).toUInt32.toUInt16.toUInt32.toInt32))])
    exact Own.Sit.retN hR S36 hx (t := .char) hret (by simp) (hb hby own_dmethod_4_code_40) (by decide) (by decide) ⟨J36.1, _, rfl, own_n2 (own_l255 _)⟩
  ·
    refine hG.st (fun t q => XS.ifNo S36.here hx rfl (hb hby own_dmethod_4_code_23) rfl ((if0 _ _).trans (feq hc23).1) (XS.iload S36.here hx rfl (hb hby own_dmethod_4_code_26) rfl (XS.iloadN S36.here hx rfl (hb hby own_dmethod_4_code_28) rfl (XS.iushr S36.here hx rfl (hb hby own_dmethod_4_code_29) rfl (XS.iconst S36.here hx rfl (hb hby own_dmethod_4_code_30) (XS.iand S36.here hx rfl (hb hby own_dmethod_4_code_31) rfl q)))))) ?_
    show G T36 (mkF m 32 #[iv kd0, iv 2, .val (.long aa), .second, iv kp, iv c36, iv (((((aa.toUInt64 >>> ((16 : Int32) &&& 0x3f).toInt64.toUInt64).toInt64) &&& (255 : Int64)).toInt32).toUInt32.toUInt16.toUInt32.toInt32)] [(.int (((kp.toUInt32 >>> ((2 : Int32) &&& 31).toUInt32).toInt32) &&& (1 : Int32)))])
    by_cases hc32 : (((kp.toUInt32 >>> ((2 : Int32) &&& 31).toUInt32).toInt32) &&& (1 : Int32)) = (0 : Int32)
    ·
      refine hG.st (fun t q => XS.ifYes S36.here hx rfl (pc0 := 32) (pc' := 38) rfl (hb hby own_dmethod_4_code_32) rfl ((if0 _ _).trans (teq hc32).1) (by decide) (by decide) (XS.iload S36.here hx rfl (hb hby own_dmethod_4_code_38) rfl q)) ?_
      show G T36 (mkF m 40 #[iv kd0, iv 2, .val (.long aa), .second, iv kp, iv c36, iv (((((aa.toUInt64 >>> ((16 : Int32) &&& 0x3f).toInt64.toUInt64).toInt64) &&& (255 : Int64)).toInt32).toUInt32.toUInt16.toUInt32.toInt32)] [(.int (((((aa.toUInt64 >>> ((16 : Int32) &&& 0x3f).toInt64.toUInt64).toInt64) &&& (255 : Int64)).toInt32).toUInt32.toUInt16.toUInt32.toInt32))])
      exact Own.Sit.retN hR S36 hx (t := .char) hret (by simp) (hb hby own_dmethod_4_code_40) (by decide) (by decide) ⟨J36.1, _, rfl, own_n2 (own_l255 _)⟩
    ·
      refine hG.st (fun t q => XS.ifNo S36.here hx rfl (hb hby own_dmethod_4_code_32) rfl ((if0 _ _).trans (feq hc32).1) (XS.iload S36.here hx rfl (hb hby own_dmethod_4_code_35) rfl q)) ?_
      show G T36 (mkF m 37 #[iv kd0, iv 2, .val (.long aa), .second, iv kp, iv c36, iv (((((aa.toUInt64 >>> ((16 : Int32) &&& 0x3f).toInt64.toUInt64).toInt64) &&& (255 : Int64)).toInt32).toUInt32.toUInt16.toUInt32.toInt32)] [(.int c36)])
      exact Own.Sit.retN hR S36 hx (t := .char) hret (by simp) (hb hby own_dmethod_4_code_37) (by decide) (by decide) ⟨J36.1, _, rfl, own_n2 r36⟩
theorem own_dmethod_3_code_25 : decode method_3_code 25 = .ok (.iconst 0, 1) := by decide +kernel
theorem own_dmethod_3_code_26 : decode method_3_code 26 = .ok (.ireturn, 1) := by decide +kernel
theorem own_ef_own_tmpl3 (m : MethodId) (kd0 : Int32) : entryFrame m #[(.int kd0), (.int 3)] 2 = mkF m 0 #[iv kd0, iv 3] [] := by first | (simp [entryFrame, mkF, argsToLocals, Value.category]; done) | rfl
set_option maxRecDepth 65536 in
set_option maxHeartbeats 40000000 in
theorem own_tmpl3 (l : Launch) (Z : State) (a0 : Array Value) (H : own_Wld Z a0) {cw : List Jvm.Cond} (kd0 : Int32) (h0 : Heap) (O0 : Ext Z.heap h0) :
    Own.Con l Z consts_1 (⟨"com/example/lorac/lorac/OperationNamedPinLaw", "tmpl", "(II)C"⟩ : MethodName) method_3_code 2 (some .char) cw ({ frames := 4, cells := 2, slots := 28, locals := 53 } : Room) #[(.int kd0), (.int 3)] h0 (fun v h => Keep h0 h [] ∧ ∃ c : Int32, v = some (.int c) ∧ ¬ c < 0 ∧ ¬ (255 : Int32) < c) := by
  have hw := H.1
  have hW := fun (i : Nat) (w : Jvm.Cond) (e : tables_1[i]? = some w) => hw w (List.mem_of_getElem? e)
  have hCm := H.2.1
  have hSi := H.2.2.1
  have hEL := H.2.2.2
  have hWs : ∀ d ∈ StrChars.Road.words, d.before a0 Z = true := fun d hd => hw d (own_wbackV d hd)
  have hWc : ∀ d ∈ StrChars.Road.wordsChN, d.before a0 Z = true := fun d hd => hw d (own_wchN d hd)
  have hWe : ∀ d ∈ StrChars.Road.wordsEq, d.before a0 Z = true := fun d hd => hw d (own_weqW d hd)
  have hSA : ∀ d ∈ Bundle.stringAtoms, d.before a0 Z = true := fun d hd => hw d (own_wSA d hd)
  refine Own.Con.of own_pn042529 hEL O0 ?_
  intro p e s m below meth c T0 G vm0 hx hby hml hret hnm hG hR S0
  have hz : ∀ L : Array Slot, L.size = 2 → L.size = c.maxLocals := fun L q => q.trans hml.symm
  rw [own_ef_own_tmpl3]
  show G T0 (mkF m 0 #[iv kd0, iv 3] [])
  refine hG.st (fun t q => XS.iloadN S0.here hx rfl (hb hby own_dmethod_3_code_0) rfl (XS.iconst S0.here hx rfl (hb hby own_dmethod_3_code_1) q)) ?_
  show G T0 (mkF m 2 #[iv kd0, iv 3] [(.int 1), (.int kd0)])
  by_cases hc2 : kd0 = (1 : Int32)
  ·
    refine hG.st (fun t q => XS.icmpNo S0.here hx rfl (hb hby own_dmethod_3_code_2) rfl (teq hc2).2 (XS.iloadN S0.here hx rfl (hb hby own_dmethod_3_code_5) rfl (XS.ifYes S0.here hx rfl (pc0 := 6) (pc' := 12) rfl (hb hby own_dmethod_3_code_6) rfl ((if0 _ _).trans (feq (by decide : ¬ ((3 : Int32) = (0 : Int32)))).2) (by decide) (by decide) (XS.iloadN S0.here hx rfl (hb hby own_dmethod_3_code_12) rfl (XS.iconst S0.here hx rfl (hb hby own_dmethod_3_code_13) (XS.icmpNo S0.here hx rfl (hb hby own_dmethod_3_code_14) rfl (feq (by decide : ¬ ((3 : Int32) = (1 : Int32)))).1 q)))))) ?_
    show G T0 (mkF m 17 #[iv kd0, iv 3] [])
    refine hG.st (fun t q => XS.iloadN S0.here hx rfl (hb hby own_dmethod_3_code_17) rfl (XS.iconst S0.here hx rfl (hb hby own_dmethod_3_code_18) (XS.icmpYes S0.here hx rfl (pc0 := 19) (pc' := 25) rfl (hb hby own_dmethod_3_code_19) rfl (feq (by decide : ¬ ((3 : Int32) = (2 : Int32)))).2 (by decide) (by decide) (XS.iconst S0.here hx rfl (hb hby own_dmethod_3_code_25) q)))) ?_
    show G T0 (mkF m 26 #[iv kd0, iv 3] [(.int 0)])
    exact Own.Sit.retN hR S0 hx (t := .char) hret (by simp) (hb hby own_dmethod_3_code_26) (by decide) (by decide) ⟨(Keep.refl _ _), _, rfl, by decide⟩
  ·
    refine hG.st (fun t q => XS.icmpYes S0.here hx rfl (pc0 := 2) (pc' := 27) rfl (hb hby own_dmethod_3_code_2) rfl (feq hc2).2 (by decide) (by decide) (XS.iloadN S0.here hx rfl (hb hby own_dmethod_3_code_27) rfl (XS.iconst S0.here hx rfl (hb hby own_dmethod_3_code_28) q))) ?_
    show G T0 (mkF m 29 #[iv kd0, iv 3] [(.int 2), (.int kd0)])
    by_cases hc29 : kd0 = (2 : Int32)
    ·
      refine hG.st (fun t q => XS.icmpNo S0.here hx rfl (hb hby own_dmethod_3_code_29) rfl (teq hc29).2 (XS.iloadN S0.here hx rfl (hb hby own_dmethod_3_code_32) rfl (XS.bipush S0.here hx rfl (hb hby own_dmethod_3_code_33) (XS.icmpNo S0.here hx rfl (hb hby own_dmethod_3_code_35) rfl (tlt (by decide : (3 : Int32) < (6 : Int32))).2.1 q)))) ?_
      show G T0 (mkF m 38 #[iv kd0, iv 3] [])
      refine Own.Sit.ldc hG S0 hx hEL (hW 89 _ rfl) hSA (by decide) (cs := ([100, 101, 108, 101, 116, 101] : List Int32)) ⟨by decide, by decide⟩ (by decide) (by decide) rfl (hb hby own_dmethod_3_code_38) (nn := 24) (by decide) (by decide) (by decide) (by decide) (fun vm37 T37 h37 x37 y37 S37 J37 St37 L37 => ?_)
      show G T37 (mkF m 40 #[iv kd0, iv 3] [(.ref x37)])
      refine hG.st (fun t q => XS.iloadN S37.here hx rfl (hb hby own_dmethod_3_code_40) rfl q) ?_
      show G T37 (mkF m 41 #[iv kd0, iv 3] [(.int 3), (.ref x37)])
      refine Own.Sit.strChar hG S37 hx hWc hCm hSi (hW 13 _ rfl) (hW 90 _ rfl) (hW 91 _ rfl) (hW 93 _ rfl) (hW 92 _ rfl) St37 (i := 3) (Nat.le_of_ble_eq_true rfl) rfl rfl (hz _ rfl) (rest := []) rfl (W := 0) (by show 2 * 0 + _ ≤ _; exact Nat.le_of_eq rfl) (hb hby own_dmethod_3_code_41) (by decide) (by decide) (by decide) (by decide) (fun T38 S38 => ?_)
      show G T38 (mkF m 44 #[iv kd0, iv 3] [(.int 101)])
      exact Own.Sit.retN hR S38 hx (t := .char) hret (by simp) (hb hby own_dmethod_3_code_44) (by decide) (by decide) ⟨J37.1, _, rfl, by decide⟩
    ·
      refine hG.st (fun t q => XS.icmpYes S0.here hx rfl (pc0 := 29) (pc' := 47) rfl (hb hby own_dmethod_3_code_29) rfl (feq hc29).2 (by decide) (by decide) (XS.iconst S0.here hx rfl (hb hby own_dmethod_3_code_47) q)) ?_
      show G T0 (mkF m 48 #[iv kd0, iv 3] [(.int 0)])
      exact Own.Sit.retN hR S0 hx (t := .char) hret (by simp) (hb hby own_dmethod_3_code_48) (by decide) (by decide) ⟨(Keep.refl _ _), _, rfl, by decide⟩
theorem own_ef_own_pick3 (m : MethodId) (kd0 : Int32) (aa : Int64) (kp : Int32) : entryFrame m #[(.int kd0), (.int 3), (.long aa), (.int kp)] 7 = mkF m 0 #[iv kd0, iv 3, .val (.long aa), .second, iv kp, .unset, .unset] [] := by first | (simp [entryFrame, mkF, argsToLocals, Value.category]; done) | rfl
set_option maxRecDepth 65536 in
set_option maxHeartbeats 40000000 in
theorem own_pick3 (l : Launch) (Z : State) (a0 : Array Value) (H : own_Wld Z a0) {cw : List Jvm.Cond} (kd0 : Int32) (aa : Int64) (kp : Int32) (h0 : Heap) (O0 : Ext Z.heap h0) :
    Own.Con l Z consts_1 (⟨"com/example/lorac/lorac/OperationNamedPinLaw", "pick", "(IIJI)C"⟩ : MethodName) method_4_code 7 (some .char) cw ({ frames := 5, cells := 2, slots := 28, locals := 66 } : Room) #[(.int kd0), (.int 3), (.long aa), (.int kp)] h0 (fun v h => Keep h0 h [] ∧ ∃ c : Int32, v = some (.int c) ∧ ¬ c < 0 ∧ ¬ (255 : Int32) < c) := by
  have hw := H.1
  have hW := fun (i : Nat) (w : Jvm.Cond) (e : tables_1[i]? = some w) => hw w (List.mem_of_getElem? e)
  have hCm := H.2.1
  have hSi := H.2.2.1
  have hEL := H.2.2.2
  have hWs : ∀ d ∈ StrChars.Road.words, d.before a0 Z = true := fun d hd => hw d (own_wbackV d hd)
  have hWc : ∀ d ∈ StrChars.Road.wordsChN, d.before a0 Z = true := fun d hd => hw d (own_wchN d hd)
  have hWe : ∀ d ∈ StrChars.Road.wordsEq, d.before a0 Z = true := fun d hd => hw d (own_weqW d hd)
  have hSA : ∀ d ∈ Bundle.stringAtoms, d.before a0 Z = true := fun d hd => hw d (own_wSA d hd)
  refine Own.Con.of own_pn0dd4ab hEL O0 ?_
  intro p e s m below meth c T0 G vm0 hx hby hml hret hnm hG hR S0
  have hz : ∀ L : Array Slot, L.size = 7 → L.size = c.maxLocals := fun L q => q.trans hml.symm
  rw [own_ef_own_pick3]
  show G T0 (mkF m 0 #[iv kd0, iv 3, .val (.long aa), .second, iv kp, .unset, .unset] [])
  refine hG.st (fun t q => XS.iloadN S0.here hx rfl (hb hby own_dmethod_4_code_0) rfl (XS.iloadN S0.here hx rfl (hb hby own_dmethod_4_code_1) rfl q)) ?_
  show G T0 (mkF m 2 #[iv kd0, iv 3, .val (.long aa), .second, iv kp, .unset, .unset] [(.int 3), (.int kd0)])
  refine Own.Sit.callS hG S0 hx hEL (as := [(.int kd0), (.int 3)]) (hW 5 _ rfl) (hW 6 _ rfl) (hW 3 _ rfl) (hW 7 _ rfl) (by decide) (own_tmpl3 l Z a0 H kd0 h0 S0.old) own_pddbdafe rfl rfl (hz _ rfl) (rest := []) rfl (W := 0) (by show 2 * 0 + _ ≤ _; exact Nat.le_of_eq rfl) (hb hby own_dmethod_4_code_2) (by decide) (by decide) (by decide) (by decide) (fun v39 vm39 T39 h39 S39 C39 q39 => ?_)
  obtain ⟨K39, c39, rfl, r39⟩ := q39
  have J39 : Own.Stp Z consts_1 vm0 h0 vm39 h39 [] := ⟨K39, C39⟩
  show G T39 (mkF m 5 #[iv kd0, iv 3, .val (.long aa), .second, iv kp, .unset, .unset] [(.int c39)])
  refine hG.st (fun t q => XS.istore S39.here hx rfl (hb hby own_dmethod_4_code_5) rfl (l' := #[iv kd0, iv 3, .val (.long aa), .second, iv kp, iv c39, .unset]) rfl (XS.lloadN S39.here hx rfl (hb hby own_dmethod_4_code_7) rfl (XS.bipush S39.here hx rfl (hb hby own_dmethod_4_code_8) (XS.iloadN S39.here hx rfl (hb hby own_dmethod_4_code_10) rfl (XS.imul S39.here hx rfl (hb hby own_dmethod_4_code_11) rfl (XS.lushr S39.here hx rfl (hb hby own_dmethod_4_code_12) rfl q)))))) ?_
  show G T39 (mkF m 13 #[iv kd0, iv 3, .val (.long aa), .second, iv kp, iv c39, .unset] [(.long ((aa.toUInt64 >>> ((24 : Int32) &&& 0x3f).toInt64.toUInt64).toInt64))])
  refine Own.Sit.ldc2 hG S39 hx (hW 8 _ rfl) rfl (hb hby own_dmethod_4_code_13) ?_
  show G T39 (mkF m 16 #[iv kd0, iv 3, .val (.long aa), .second, iv kp, iv c39, .unset] [(.long (255 : Int64)), (.long ((aa.toUInt64 >>> ((24 : Int32) &&& 0x3f).toInt64.toUInt64).toInt64))])
  refine hG.st (fun t q => XS.land S39.here hx rfl (hb hby own_dmethod_4_code_16) rfl (XS.l2i S39.here hx rfl (hb hby own_dmethod_4_code_17) rfl (XS.i2c S39.here hx rfl (hb hby own_dmethod_4_code_18) rfl (XS.istore S39.here hx rfl (hb hby own_dmethod_4_code_19) rfl (l' := #[iv kd0, iv 3, .val (.long aa), .second, iv kp, iv c39, iv (((((aa.toUInt64 >>> ((24 : Int32) &&& 0x3f).toInt64.toUInt64).toInt64) &&& (255 : Int64)).toInt32).toUInt32.toUInt16.toUInt32.toInt32)]) rfl (XS.iload S39.here hx rfl (hb hby own_dmethod_4_code_21) rfl q))))) ?_
  show G T39 (mkF m 23 #[iv kd0, iv 3, .val (.long aa), .second, iv kp, iv c39, iv (((((aa.toUInt64 >>> ((24 : Int32) &&& 0x3f).toInt64.toUInt64).toInt64) &&& (255 : Int64)).toInt32).toUInt32.toUInt16.toUInt32.toInt32)] [(.int c39)])
  by_cases hc23 : c39 = (0 : Int32)
  ·
    refine hG.st (fun t q => XS.ifYes S39.here hx rfl (pc0 := 23) (pc' := 38) rfl (hb hby own_dmethod_4_code_23) rfl ((if0 _ _).trans (teq hc23).1) (by decide) (by decide) (XS.iload S39.here hx rfl (hb hby own_dmethod_4_code_38) rfl q)) ?_
    show G T39 (mkF m 40 #[iv kd0, iv 3, .val (.long aa), .second, iv kp, iv c39, iv (((((aa.toUInt64 >>> ((24 : Int32) &&& 0x3f).toInt64.toUInt64).toInt64) &&& (255 : Int64)).toInt32).toUInt32.toUInt16.toUInt32.toInt32)] [(.int (((((aa.toUInt64 >>> ((24 : Int32) &&& 0x3f).toInt64.toUInt64).toInt64) &&& (255 : Int64)).toInt32).toUInt32.toUInt16.toUInt32.toInt32))])
    exact Own.Sit.retN hR S39 hx (t := .char) hret (by simp) (hb hby own_dmethod_4_code_40) (by decide) (by decide) ⟨J39.1, _, rfl, own_n2 (own_l255 _)⟩
  ·
    refine hG.st (fun t q => XS.ifNo S39.here hx rfl (hb hby own_dmethod_4_code_23) rfl ((if0 _ _).trans (feq hc23).1) (XS.iload S39.here hx rfl (hb hby own_dmethod_4_code_26) rfl (XS.iloadN S39.here hx rfl (hb hby own_dmethod_4_code_28) rfl (XS.iushr S39.here hx rfl (hb hby own_dmethod_4_code_29) rfl (XS.iconst S39.here hx rfl (hb hby own_dmethod_4_code_30) (XS.iand S39.here hx rfl (hb hby own_dmethod_4_code_31) rfl q)))))) ?_
    show G T39 (mkF m 32 #[iv kd0, iv 3, .val (.long aa), .second, iv kp, iv c39, iv (((((aa.toUInt64 >>> ((24 : Int32) &&& 0x3f).toInt64.toUInt64).toInt64) &&& (255 : Int64)).toInt32).toUInt32.toUInt16.toUInt32.toInt32)] [(.int (((kp.toUInt32 >>> ((3 : Int32) &&& 31).toUInt32).toInt32) &&& (1 : Int32)))])
    by_cases hc32 : (((kp.toUInt32 >>> ((3 : Int32) &&& 31).toUInt32).toInt32) &&& (1 : Int32)) = (0 : Int32)
    ·
      refine hG.st (fun t q => XS.ifYes S39.here hx rfl (pc0 := 32) (pc' := 38) rfl (hb hby own_dmethod_4_code_32) rfl ((if0 _ _).trans (teq hc32).1) (by decide) (by decide) (XS.iload S39.here hx rfl (hb hby own_dmethod_4_code_38) rfl q)) ?_
      show G T39 (mkF m 40 #[iv kd0, iv 3, .val (.long aa), .second, iv kp, iv c39, iv (((((aa.toUInt64 >>> ((24 : Int32) &&& 0x3f).toInt64.toUInt64).toInt64) &&& (255 : Int64)).toInt32).toUInt32.toUInt16.toUInt32.toInt32)] [(.int (((((aa.toUInt64 >>> ((24 : Int32) &&& 0x3f).toInt64.toUInt64).toInt64) &&& (255 : Int64)).toInt32).toUInt32.toUInt16.toUInt32.toInt32))])
      exact Own.Sit.retN hR S39 hx (t := .char) hret (by simp) (hb hby own_dmethod_4_code_40) (by decide) (by decide) ⟨J39.1, _, rfl, own_n2 (own_l255 _)⟩
    ·
      refine hG.st (fun t q => XS.ifNo S39.here hx rfl (hb hby own_dmethod_4_code_32) rfl ((if0 _ _).trans (feq hc32).1) (XS.iload S39.here hx rfl (hb hby own_dmethod_4_code_35) rfl q)) ?_
      show G T39 (mkF m 37 #[iv kd0, iv 3, .val (.long aa), .second, iv kp, iv c39, iv (((((aa.toUInt64 >>> ((24 : Int32) &&& 0x3f).toInt64.toUInt64).toInt64) &&& (255 : Int64)).toInt32).toUInt32.toUInt16.toUInt32.toInt32)] [(.int c39)])
      exact Own.Sit.retN hR S39 hx (t := .char) hret (by simp) (hb hby own_dmethod_4_code_37) (by decide) (by decide) ⟨J39.1, _, rfl, own_n2 r39⟩
theorem own_ef_own_tmpl4 (m : MethodId) (kd0 : Int32) : entryFrame m #[(.int kd0), (.int 4)] 2 = mkF m 0 #[iv kd0, iv 4] [] := by first | (simp [entryFrame, mkF, argsToLocals, Value.category]; done) | rfl
set_option maxRecDepth 65536 in
set_option maxHeartbeats 40000000 in
theorem own_tmpl4 (l : Launch) (Z : State) (a0 : Array Value) (H : own_Wld Z a0) {cw : List Jvm.Cond} (kd0 : Int32) (h0 : Heap) (O0 : Ext Z.heap h0) :
    Own.Con l Z consts_1 (⟨"com/example/lorac/lorac/OperationNamedPinLaw", "tmpl", "(II)C"⟩ : MethodName) method_3_code 2 (some .char) cw ({ frames := 4, cells := 2, slots := 28, locals := 53 } : Room) #[(.int kd0), (.int 4)] h0 (fun v h => Keep h0 h [] ∧ ∃ c : Int32, v = some (.int c) ∧ ¬ c < 0 ∧ ¬ (255 : Int32) < c) := by
  have hw := H.1
  have hW := fun (i : Nat) (w : Jvm.Cond) (e : tables_1[i]? = some w) => hw w (List.mem_of_getElem? e)
  have hCm := H.2.1
  have hSi := H.2.2.1
  have hEL := H.2.2.2
  have hWs : ∀ d ∈ StrChars.Road.words, d.before a0 Z = true := fun d hd => hw d (own_wbackV d hd)
  have hWc : ∀ d ∈ StrChars.Road.wordsChN, d.before a0 Z = true := fun d hd => hw d (own_wchN d hd)
  have hWe : ∀ d ∈ StrChars.Road.wordsEq, d.before a0 Z = true := fun d hd => hw d (own_weqW d hd)
  have hSA : ∀ d ∈ Bundle.stringAtoms, d.before a0 Z = true := fun d hd => hw d (own_wSA d hd)
  refine Own.Con.of own_pn042529 hEL O0 ?_
  intro p e s m below meth c T0 G vm0 hx hby hml hret hnm hG hR S0
  have hz : ∀ L : Array Slot, L.size = 2 → L.size = c.maxLocals := fun L q => q.trans hml.symm
  rw [own_ef_own_tmpl4]
  show G T0 (mkF m 0 #[iv kd0, iv 4] [])
  refine hG.st (fun t q => XS.iloadN S0.here hx rfl (hb hby own_dmethod_3_code_0) rfl (XS.iconst S0.here hx rfl (hb hby own_dmethod_3_code_1) q)) ?_
  show G T0 (mkF m 2 #[iv kd0, iv 4] [(.int 1), (.int kd0)])
  by_cases hc2 : kd0 = (1 : Int32)
  ·
    refine hG.st (fun t q => XS.icmpNo S0.here hx rfl (hb hby own_dmethod_3_code_2) rfl (teq hc2).2 (XS.iloadN S0.here hx rfl (hb hby own_dmethod_3_code_5) rfl (XS.ifYes S0.here hx rfl (pc0 := 6) (pc' := 12) rfl (hb hby own_dmethod_3_code_6) rfl ((if0 _ _).trans (feq (by decide : ¬ ((4 : Int32) = (0 : Int32)))).2) (by decide) (by decide) (XS.iloadN S0.here hx rfl (hb hby own_dmethod_3_code_12) rfl (XS.iconst S0.here hx rfl (hb hby own_dmethod_3_code_13) (XS.icmpNo S0.here hx rfl (hb hby own_dmethod_3_code_14) rfl (feq (by decide : ¬ ((4 : Int32) = (1 : Int32)))).1 q)))))) ?_
    show G T0 (mkF m 17 #[iv kd0, iv 4] [])
    refine hG.st (fun t q => XS.iloadN S0.here hx rfl (hb hby own_dmethod_3_code_17) rfl (XS.iconst S0.here hx rfl (hb hby own_dmethod_3_code_18) (XS.icmpYes S0.here hx rfl (pc0 := 19) (pc' := 25) rfl (hb hby own_dmethod_3_code_19) rfl (feq (by decide : ¬ ((4 : Int32) = (2 : Int32)))).2 (by decide) (by decide) (XS.iconst S0.here hx rfl (hb hby own_dmethod_3_code_25) q)))) ?_
    show G T0 (mkF m 26 #[iv kd0, iv 4] [(.int 0)])
    exact Own.Sit.retN hR S0 hx (t := .char) hret (by simp) (hb hby own_dmethod_3_code_26) (by decide) (by decide) ⟨(Keep.refl _ _), _, rfl, by decide⟩
  ·
    refine hG.st (fun t q => XS.icmpYes S0.here hx rfl (pc0 := 2) (pc' := 27) rfl (hb hby own_dmethod_3_code_2) rfl (feq hc2).2 (by decide) (by decide) (XS.iloadN S0.here hx rfl (hb hby own_dmethod_3_code_27) rfl (XS.iconst S0.here hx rfl (hb hby own_dmethod_3_code_28) q))) ?_
    show G T0 (mkF m 29 #[iv kd0, iv 4] [(.int 2), (.int kd0)])
    by_cases hc29 : kd0 = (2 : Int32)
    ·
      refine hG.st (fun t q => XS.icmpNo S0.here hx rfl (hb hby own_dmethod_3_code_29) rfl (teq hc29).2 (XS.iloadN S0.here hx rfl (hb hby own_dmethod_3_code_32) rfl (XS.bipush S0.here hx rfl (hb hby own_dmethod_3_code_33) (XS.icmpNo S0.here hx rfl (hb hby own_dmethod_3_code_35) rfl (tlt (by decide : (4 : Int32) < (6 : Int32))).2.1 q)))) ?_
      show G T0 (mkF m 38 #[iv kd0, iv 4] [])
      refine Own.Sit.ldc hG S0 hx hEL (hW 89 _ rfl) hSA (by decide) (cs := ([100, 101, 108, 101, 116, 101] : List Int32)) ⟨by decide, by decide⟩ (by decide) (by decide) rfl (hb hby own_dmethod_3_code_38) (nn := 24) (by decide) (by decide) (by decide) (by decide) (fun vm40 T40 h40 x40 y40 S40 J40 St40 L40 => ?_)
      show G T40 (mkF m 40 #[iv kd0, iv 4] [(.ref x40)])
      refine hG.st (fun t q => XS.iloadN S40.here hx rfl (hb hby own_dmethod_3_code_40) rfl q) ?_
      show G T40 (mkF m 41 #[iv kd0, iv 4] [(.int 4), (.ref x40)])
      refine Own.Sit.strChar hG S40 hx hWc hCm hSi (hW 13 _ rfl) (hW 90 _ rfl) (hW 91 _ rfl) (hW 93 _ rfl) (hW 92 _ rfl) St40 (i := 4) (Nat.le_of_ble_eq_true rfl) rfl rfl (hz _ rfl) (rest := []) rfl (W := 0) (by show 2 * 0 + _ ≤ _; exact Nat.le_of_eq rfl) (hb hby own_dmethod_3_code_41) (by decide) (by decide) (by decide) (by decide) (fun T41 S41 => ?_)
      show G T41 (mkF m 44 #[iv kd0, iv 4] [(.int 116)])
      exact Own.Sit.retN hR S41 hx (t := .char) hret (by simp) (hb hby own_dmethod_3_code_44) (by decide) (by decide) ⟨J40.1, _, rfl, by decide⟩
    ·
      refine hG.st (fun t q => XS.icmpYes S0.here hx rfl (pc0 := 29) (pc' := 47) rfl (hb hby own_dmethod_3_code_29) rfl (feq hc29).2 (by decide) (by decide) (XS.iconst S0.here hx rfl (hb hby own_dmethod_3_code_47) q)) ?_
      show G T0 (mkF m 48 #[iv kd0, iv 4] [(.int 0)])
      exact Own.Sit.retN hR S0 hx (t := .char) hret (by simp) (hb hby own_dmethod_3_code_48) (by decide) (by decide) ⟨(Keep.refl _ _), _, rfl, by decide⟩
theorem own_ef_own_pick4 (m : MethodId) (kd0 : Int32) (aa : Int64) (kp : Int32) : entryFrame m #[(.int kd0), (.int 4), (.long aa), (.int kp)] 7 = mkF m 0 #[iv kd0, iv 4, .val (.long aa), .second, iv kp, .unset, .unset] [] := by first | (simp [entryFrame, mkF, argsToLocals, Value.category]; done) | rfl
set_option maxRecDepth 65536 in
set_option maxHeartbeats 40000000 in
theorem own_pick4 (l : Launch) (Z : State) (a0 : Array Value) (H : own_Wld Z a0) {cw : List Jvm.Cond} (kd0 : Int32) (aa : Int64) (kp : Int32) (h0 : Heap) (O0 : Ext Z.heap h0) :
    Own.Con l Z consts_1 (⟨"com/example/lorac/lorac/OperationNamedPinLaw", "pick", "(IIJI)C"⟩ : MethodName) method_4_code 7 (some .char) cw ({ frames := 5, cells := 2, slots := 28, locals := 66 } : Room) #[(.int kd0), (.int 4), (.long aa), (.int kp)] h0 (fun v h => Keep h0 h [] ∧ ∃ c : Int32, v = some (.int c) ∧ ¬ c < 0 ∧ ¬ (255 : Int32) < c) := by
  have hw := H.1
  have hW := fun (i : Nat) (w : Jvm.Cond) (e : tables_1[i]? = some w) => hw w (List.mem_of_getElem? e)
  have hCm := H.2.1
  have hSi := H.2.2.1
  have hEL := H.2.2.2
  have hWs : ∀ d ∈ StrChars.Road.words, d.before a0 Z = true := fun d hd => hw d (own_wbackV d hd)
  have hWc : ∀ d ∈ StrChars.Road.wordsChN, d.before a0 Z = true := fun d hd => hw d (own_wchN d hd)
  have hWe : ∀ d ∈ StrChars.Road.wordsEq, d.before a0 Z = true := fun d hd => hw d (own_weqW d hd)
  have hSA : ∀ d ∈ Bundle.stringAtoms, d.before a0 Z = true := fun d hd => hw d (own_wSA d hd)
  refine Own.Con.of own_pn0dd4ab hEL O0 ?_
  intro p e s m below meth c T0 G vm0 hx hby hml hret hnm hG hR S0
  have hz : ∀ L : Array Slot, L.size = 7 → L.size = c.maxLocals := fun L q => q.trans hml.symm
  rw [own_ef_own_pick4]
  show G T0 (mkF m 0 #[iv kd0, iv 4, .val (.long aa), .second, iv kp, .unset, .unset] [])
  refine hG.st (fun t q => XS.iloadN S0.here hx rfl (hb hby own_dmethod_4_code_0) rfl (XS.iloadN S0.here hx rfl (hb hby own_dmethod_4_code_1) rfl q)) ?_
  show G T0 (mkF m 2 #[iv kd0, iv 4, .val (.long aa), .second, iv kp, .unset, .unset] [(.int 4), (.int kd0)])
  refine Own.Sit.callS hG S0 hx hEL (as := [(.int kd0), (.int 4)]) (hW 5 _ rfl) (hW 6 _ rfl) (hW 3 _ rfl) (hW 7 _ rfl) (by decide) (own_tmpl4 l Z a0 H kd0 h0 S0.old) own_pddbdafe rfl rfl (hz _ rfl) (rest := []) rfl (W := 0) (by show 2 * 0 + _ ≤ _; exact Nat.le_of_eq rfl) (hb hby own_dmethod_4_code_2) (by decide) (by decide) (by decide) (by decide) (fun v42 vm42 T42 h42 S42 C42 q42 => ?_)
  obtain ⟨K42, c42, rfl, r42⟩ := q42
  have J42 : Own.Stp Z consts_1 vm0 h0 vm42 h42 [] := ⟨K42, C42⟩
  show G T42 (mkF m 5 #[iv kd0, iv 4, .val (.long aa), .second, iv kp, .unset, .unset] [(.int c42)])
  refine hG.st (fun t q => XS.istore S42.here hx rfl (hb hby own_dmethod_4_code_5) rfl (l' := #[iv kd0, iv 4, .val (.long aa), .second, iv kp, iv c42, .unset]) rfl (XS.lloadN S42.here hx rfl (hb hby own_dmethod_4_code_7) rfl (XS.bipush S42.here hx rfl (hb hby own_dmethod_4_code_8) (XS.iloadN S42.here hx rfl (hb hby own_dmethod_4_code_10) rfl (XS.imul S42.here hx rfl (hb hby own_dmethod_4_code_11) rfl (XS.lushr S42.here hx rfl (hb hby own_dmethod_4_code_12) rfl q)))))) ?_
  show G T42 (mkF m 13 #[iv kd0, iv 4, .val (.long aa), .second, iv kp, iv c42, .unset] [(.long ((aa.toUInt64 >>> ((32 : Int32) &&& 0x3f).toInt64.toUInt64).toInt64))])
  refine Own.Sit.ldc2 hG S42 hx (hW 8 _ rfl) rfl (hb hby own_dmethod_4_code_13) ?_
  show G T42 (mkF m 16 #[iv kd0, iv 4, .val (.long aa), .second, iv kp, iv c42, .unset] [(.long (255 : Int64)), (.long ((aa.toUInt64 >>> ((32 : Int32) &&& 0x3f).toInt64.toUInt64).toInt64))])
  refine hG.st (fun t q => XS.land S42.here hx rfl (hb hby own_dmethod_4_code_16) rfl (XS.l2i S42.here hx rfl (hb hby own_dmethod_4_code_17) rfl (XS.i2c S42.here hx rfl (hb hby own_dmethod_4_code_18) rfl (XS.istore S42.here hx rfl (hb hby own_dmethod_4_code_19) rfl (l' := #[iv kd0, iv 4, .val (.long aa), .second, iv kp, iv c42, iv (((((aa.toUInt64 >>> ((32 : Int32) &&& 0x3f).toInt64.toUInt64).toInt64) &&& (255 : Int64)).toInt32).toUInt32.toUInt16.toUInt32.toInt32)]) rfl (XS.iload S42.here hx rfl (hb hby own_dmethod_4_code_21) rfl q))))) ?_
  show G T42 (mkF m 23 #[iv kd0, iv 4, .val (.long aa), .second, iv kp, iv c42, iv (((((aa.toUInt64 >>> ((32 : Int32) &&& 0x3f).toInt64.toUInt64).toInt64) &&& (255 : Int64)).toInt32).toUInt32.toUInt16.toUInt32.toInt32)] [(.int c42)])
  by_cases hc23 : c42 = (0 : Int32)
  ·
    refine hG.st (fun t q => XS.ifYes S42.here hx rfl (pc0 := 23) (pc' := 38) rfl (hb hby own_dmethod_4_code_23) rfl ((if0 _ _).trans (teq hc23).1) (by decide) (by decide) (XS.iload S42.here hx rfl (hb hby own_dmethod_4_code_38) rfl q)) ?_
    show G T42 (mkF m 40 #[iv kd0, iv 4, .val (.long aa), .second, iv kp, iv c42, iv (((((aa.toUInt64 >>> ((32 : Int32) &&& 0x3f).toInt64.toUInt64).toInt64) &&& (255 : Int64)).toInt32).toUInt32.toUInt16.toUInt32.toInt32)] [(.int (((((aa.toUInt64 >>> ((32 : Int32) &&& 0x3f).toInt64.toUInt64).toInt64) &&& (255 : Int64)).toInt32).toUInt32.toUInt16.toUInt32.toInt32))])
    exact Own.Sit.retN hR S42 hx (t := .char) hret (by simp) (hb hby own_dmethod_4_code_40) (by decide) (by decide) ⟨J42.1, _, rfl, own_n2 (own_l255 _)⟩
  ·
    refine hG.st (fun t q => XS.ifNo S42.here hx rfl (hb hby own_dmethod_4_code_23) rfl ((if0 _ _).trans (feq hc23).1) (XS.iload S42.here hx rfl (hb hby own_dmethod_4_code_26) rfl (XS.iloadN S42.here hx rfl (hb hby own_dmethod_4_code_28) rfl (XS.iushr S42.here hx rfl (hb hby own_dmethod_4_code_29) rfl (XS.iconst S42.here hx rfl (hb hby own_dmethod_4_code_30) (XS.iand S42.here hx rfl (hb hby own_dmethod_4_code_31) rfl q)))))) ?_
    show G T42 (mkF m 32 #[iv kd0, iv 4, .val (.long aa), .second, iv kp, iv c42, iv (((((aa.toUInt64 >>> ((32 : Int32) &&& 0x3f).toInt64.toUInt64).toInt64) &&& (255 : Int64)).toInt32).toUInt32.toUInt16.toUInt32.toInt32)] [(.int (((kp.toUInt32 >>> ((4 : Int32) &&& 31).toUInt32).toInt32) &&& (1 : Int32)))])
    by_cases hc32 : (((kp.toUInt32 >>> ((4 : Int32) &&& 31).toUInt32).toInt32) &&& (1 : Int32)) = (0 : Int32)
    ·
      refine hG.st (fun t q => XS.ifYes S42.here hx rfl (pc0 := 32) (pc' := 38) rfl (hb hby own_dmethod_4_code_32) rfl ((if0 _ _).trans (teq hc32).1) (by decide) (by decide) (XS.iload S42.here hx rfl (hb hby own_dmethod_4_code_38) rfl q)) ?_
      show G T42 (mkF m 40 #[iv kd0, iv 4, .val (.long aa), .second, iv kp, iv c42, iv (((((aa.toUInt64 >>> ((32 : Int32) &&& 0x3f).toInt64.toUInt64).toInt64) &&& (255 : Int64)).toInt32).toUInt32.toUInt16.toUInt32.toInt32)] [(.int (((((aa.toUInt64 >>> ((32 : Int32) &&& 0x3f).toInt64.toUInt64).toInt64) &&& (255 : Int64)).toInt32).toUInt32.toUInt16.toUInt32.toInt32))])
      exact Own.Sit.retN hR S42 hx (t := .char) hret (by simp) (hb hby own_dmethod_4_code_40) (by decide) (by decide) ⟨J42.1, _, rfl, own_n2 (own_l255 _)⟩
    ·
      refine hG.st (fun t q => XS.ifNo S42.here hx rfl (hb hby own_dmethod_4_code_32) rfl ((if0 _ _).trans (feq hc32).1) (XS.iload S42.here hx rfl (hb hby own_dmethod_4_code_35) rfl q)) ?_
      show G T42 (mkF m 37 #[iv kd0, iv 4, .val (.long aa), .second, iv kp, iv c42, iv (((((aa.toUInt64 >>> ((32 : Int32) &&& 0x3f).toInt64.toUInt64).toInt64) &&& (255 : Int64)).toInt32).toUInt32.toUInt16.toUInt32.toInt32)] [(.int c42)])
      exact Own.Sit.retN hR S42 hx (t := .char) hret (by simp) (hb hby own_dmethod_4_code_37) (by decide) (by decide) ⟨J42.1, _, rfl, own_n2 r42⟩
theorem own_ef_own_tmpl5 (m : MethodId) (kd0 : Int32) : entryFrame m #[(.int kd0), (.int 5)] 2 = mkF m 0 #[iv kd0, iv 5] [] := by first | (simp [entryFrame, mkF, argsToLocals, Value.category]; done) | rfl
set_option maxRecDepth 65536 in
set_option maxHeartbeats 40000000 in
theorem own_tmpl5 (l : Launch) (Z : State) (a0 : Array Value) (H : own_Wld Z a0) {cw : List Jvm.Cond} (kd0 : Int32) (h0 : Heap) (O0 : Ext Z.heap h0) :
    Own.Con l Z consts_1 (⟨"com/example/lorac/lorac/OperationNamedPinLaw", "tmpl", "(II)C"⟩ : MethodName) method_3_code 2 (some .char) cw ({ frames := 4, cells := 2, slots := 28, locals := 53 } : Room) #[(.int kd0), (.int 5)] h0 (fun v h => Keep h0 h [] ∧ ∃ c : Int32, v = some (.int c) ∧ ¬ c < 0 ∧ ¬ (255 : Int32) < c) := by
  have hw := H.1
  have hW := fun (i : Nat) (w : Jvm.Cond) (e : tables_1[i]? = some w) => hw w (List.mem_of_getElem? e)
  have hCm := H.2.1
  have hSi := H.2.2.1
  have hEL := H.2.2.2
  have hWs : ∀ d ∈ StrChars.Road.words, d.before a0 Z = true := fun d hd => hw d (own_wbackV d hd)
  have hWc : ∀ d ∈ StrChars.Road.wordsChN, d.before a0 Z = true := fun d hd => hw d (own_wchN d hd)
  have hWe : ∀ d ∈ StrChars.Road.wordsEq, d.before a0 Z = true := fun d hd => hw d (own_weqW d hd)
  have hSA : ∀ d ∈ Bundle.stringAtoms, d.before a0 Z = true := fun d hd => hw d (own_wSA d hd)
  refine Own.Con.of own_pn042529 hEL O0 ?_
  intro p e s m below meth c T0 G vm0 hx hby hml hret hnm hG hR S0
  have hz : ∀ L : Array Slot, L.size = 2 → L.size = c.maxLocals := fun L q => q.trans hml.symm
  rw [own_ef_own_tmpl5]
  show G T0 (mkF m 0 #[iv kd0, iv 5] [])
  refine hG.st (fun t q => XS.iloadN S0.here hx rfl (hb hby own_dmethod_3_code_0) rfl (XS.iconst S0.here hx rfl (hb hby own_dmethod_3_code_1) q)) ?_
  show G T0 (mkF m 2 #[iv kd0, iv 5] [(.int 1), (.int kd0)])
  by_cases hc2 : kd0 = (1 : Int32)
  ·
    refine hG.st (fun t q => XS.icmpNo S0.here hx rfl (hb hby own_dmethod_3_code_2) rfl (teq hc2).2 (XS.iloadN S0.here hx rfl (hb hby own_dmethod_3_code_5) rfl (XS.ifYes S0.here hx rfl (pc0 := 6) (pc' := 12) rfl (hb hby own_dmethod_3_code_6) rfl ((if0 _ _).trans (feq (by decide : ¬ ((5 : Int32) = (0 : Int32)))).2) (by decide) (by decide) (XS.iloadN S0.here hx rfl (hb hby own_dmethod_3_code_12) rfl (XS.iconst S0.here hx rfl (hb hby own_dmethod_3_code_13) (XS.icmpNo S0.here hx rfl (hb hby own_dmethod_3_code_14) rfl (feq (by decide : ¬ ((5 : Int32) = (1 : Int32)))).1 q)))))) ?_
    show G T0 (mkF m 17 #[iv kd0, iv 5] [])
    refine hG.st (fun t q => XS.iloadN S0.here hx rfl (hb hby own_dmethod_3_code_17) rfl (XS.iconst S0.here hx rfl (hb hby own_dmethod_3_code_18) (XS.icmpYes S0.here hx rfl (pc0 := 19) (pc' := 25) rfl (hb hby own_dmethod_3_code_19) rfl (feq (by decide : ¬ ((5 : Int32) = (2 : Int32)))).2 (by decide) (by decide) (XS.iconst S0.here hx rfl (hb hby own_dmethod_3_code_25) q)))) ?_
    show G T0 (mkF m 26 #[iv kd0, iv 5] [(.int 0)])
    exact Own.Sit.retN hR S0 hx (t := .char) hret (by simp) (hb hby own_dmethod_3_code_26) (by decide) (by decide) ⟨(Keep.refl _ _), _, rfl, by decide⟩
  ·
    refine hG.st (fun t q => XS.icmpYes S0.here hx rfl (pc0 := 2) (pc' := 27) rfl (hb hby own_dmethod_3_code_2) rfl (feq hc2).2 (by decide) (by decide) (XS.iloadN S0.here hx rfl (hb hby own_dmethod_3_code_27) rfl (XS.iconst S0.here hx rfl (hb hby own_dmethod_3_code_28) q))) ?_
    show G T0 (mkF m 29 #[iv kd0, iv 5] [(.int 2), (.int kd0)])
    by_cases hc29 : kd0 = (2 : Int32)
    ·
      refine hG.st (fun t q => XS.icmpNo S0.here hx rfl (hb hby own_dmethod_3_code_29) rfl (teq hc29).2 (XS.iloadN S0.here hx rfl (hb hby own_dmethod_3_code_32) rfl (XS.bipush S0.here hx rfl (hb hby own_dmethod_3_code_33) (XS.icmpNo S0.here hx rfl (hb hby own_dmethod_3_code_35) rfl (tlt (by decide : (5 : Int32) < (6 : Int32))).2.1 q)))) ?_
      show G T0 (mkF m 38 #[iv kd0, iv 5] [])
      refine Own.Sit.ldc hG S0 hx hEL (hW 89 _ rfl) hSA (by decide) (cs := ([100, 101, 108, 101, 116, 101] : List Int32)) ⟨by decide, by decide⟩ (by decide) (by decide) rfl (hb hby own_dmethod_3_code_38) (nn := 24) (by decide) (by decide) (by decide) (by decide) (fun vm43 T43 h43 x43 y43 S43 J43 St43 L43 => ?_)
      show G T43 (mkF m 40 #[iv kd0, iv 5] [(.ref x43)])
      refine hG.st (fun t q => XS.iloadN S43.here hx rfl (hb hby own_dmethod_3_code_40) rfl q) ?_
      show G T43 (mkF m 41 #[iv kd0, iv 5] [(.int 5), (.ref x43)])
      refine Own.Sit.strChar hG S43 hx hWc hCm hSi (hW 13 _ rfl) (hW 90 _ rfl) (hW 91 _ rfl) (hW 93 _ rfl) (hW 92 _ rfl) St43 (i := 5) (Nat.le_of_ble_eq_true rfl) rfl rfl (hz _ rfl) (rest := []) rfl (W := 0) (by show 2 * 0 + _ ≤ _; exact Nat.le_of_eq rfl) (hb hby own_dmethod_3_code_41) (by decide) (by decide) (by decide) (by decide) (fun T44 S44 => ?_)
      show G T44 (mkF m 44 #[iv kd0, iv 5] [(.int 101)])
      exact Own.Sit.retN hR S44 hx (t := .char) hret (by simp) (hb hby own_dmethod_3_code_44) (by decide) (by decide) ⟨J43.1, _, rfl, by decide⟩
    ·
      refine hG.st (fun t q => XS.icmpYes S0.here hx rfl (pc0 := 29) (pc' := 47) rfl (hb hby own_dmethod_3_code_29) rfl (feq hc29).2 (by decide) (by decide) (XS.iconst S0.here hx rfl (hb hby own_dmethod_3_code_47) q)) ?_
      show G T0 (mkF m 48 #[iv kd0, iv 5] [(.int 0)])
      exact Own.Sit.retN hR S0 hx (t := .char) hret (by simp) (hb hby own_dmethod_3_code_48) (by decide) (by decide) ⟨(Keep.refl _ _), _, rfl, by decide⟩
theorem own_ef_own_pick5 (m : MethodId) (kd0 : Int32) (aa : Int64) (kp : Int32) : entryFrame m #[(.int kd0), (.int 5), (.long aa), (.int kp)] 7 = mkF m 0 #[iv kd0, iv 5, .val (.long aa), .second, iv kp, .unset, .unset] [] := by first | (simp [entryFrame, mkF, argsToLocals, Value.category]; done) | rfl
set_option maxRecDepth 65536 in
set_option maxHeartbeats 40000000 in
theorem own_pick5 (l : Launch) (Z : State) (a0 : Array Value) (H : own_Wld Z a0) {cw : List Jvm.Cond} (kd0 : Int32) (aa : Int64) (kp : Int32) (h0 : Heap) (O0 : Ext Z.heap h0) :
    Own.Con l Z consts_1 (⟨"com/example/lorac/lorac/OperationNamedPinLaw", "pick", "(IIJI)C"⟩ : MethodName) method_4_code 7 (some .char) cw ({ frames := 5, cells := 2, slots := 28, locals := 66 } : Room) #[(.int kd0), (.int 5), (.long aa), (.int kp)] h0 (fun v h => Keep h0 h [] ∧ ∃ c : Int32, v = some (.int c) ∧ ¬ c < 0 ∧ ¬ (255 : Int32) < c) := by
  have hw := H.1
  have hW := fun (i : Nat) (w : Jvm.Cond) (e : tables_1[i]? = some w) => hw w (List.mem_of_getElem? e)
  have hCm := H.2.1
  have hSi := H.2.2.1
  have hEL := H.2.2.2
  have hWs : ∀ d ∈ StrChars.Road.words, d.before a0 Z = true := fun d hd => hw d (own_wbackV d hd)
  have hWc : ∀ d ∈ StrChars.Road.wordsChN, d.before a0 Z = true := fun d hd => hw d (own_wchN d hd)
  have hWe : ∀ d ∈ StrChars.Road.wordsEq, d.before a0 Z = true := fun d hd => hw d (own_weqW d hd)
  have hSA : ∀ d ∈ Bundle.stringAtoms, d.before a0 Z = true := fun d hd => hw d (own_wSA d hd)
  refine Own.Con.of own_pn0dd4ab hEL O0 ?_
  intro p e s m below meth c T0 G vm0 hx hby hml hret hnm hG hR S0
  have hz : ∀ L : Array Slot, L.size = 7 → L.size = c.maxLocals := fun L q => q.trans hml.symm
  rw [own_ef_own_pick5]
  show G T0 (mkF m 0 #[iv kd0, iv 5, .val (.long aa), .second, iv kp, .unset, .unset] [])
  refine hG.st (fun t q => XS.iloadN S0.here hx rfl (hb hby own_dmethod_4_code_0) rfl (XS.iloadN S0.here hx rfl (hb hby own_dmethod_4_code_1) rfl q)) ?_
  show G T0 (mkF m 2 #[iv kd0, iv 5, .val (.long aa), .second, iv kp, .unset, .unset] [(.int 5), (.int kd0)])
  refine Own.Sit.callS hG S0 hx hEL (as := [(.int kd0), (.int 5)]) (hW 5 _ rfl) (hW 6 _ rfl) (hW 3 _ rfl) (hW 7 _ rfl) (by decide) (own_tmpl5 l Z a0 H kd0 h0 S0.old) own_pddbdafe rfl rfl (hz _ rfl) (rest := []) rfl (W := 0) (by show 2 * 0 + _ ≤ _; exact Nat.le_of_eq rfl) (hb hby own_dmethod_4_code_2) (by decide) (by decide) (by decide) (by decide) (fun v45 vm45 T45 h45 S45 C45 q45 => ?_)
  obtain ⟨K45, c45, rfl, r45⟩ := q45
  have J45 : Own.Stp Z consts_1 vm0 h0 vm45 h45 [] := ⟨K45, C45⟩
  show G T45 (mkF m 5 #[iv kd0, iv 5, .val (.long aa), .second, iv kp, .unset, .unset] [(.int c45)])
  refine hG.st (fun t q => XS.istore S45.here hx rfl (hb hby own_dmethod_4_code_5) rfl (l' := #[iv kd0, iv 5, .val (.long aa), .second, iv kp, iv c45, .unset]) rfl (XS.lloadN S45.here hx rfl (hb hby own_dmethod_4_code_7) rfl (XS.bipush S45.here hx rfl (hb hby own_dmethod_4_code_8) (XS.iloadN S45.here hx rfl (hb hby own_dmethod_4_code_10) rfl (XS.imul S45.here hx rfl (hb hby own_dmethod_4_code_11) rfl (XS.lushr S45.here hx rfl (hb hby own_dmethod_4_code_12) rfl q)))))) ?_
  show G T45 (mkF m 13 #[iv kd0, iv 5, .val (.long aa), .second, iv kp, iv c45, .unset] [(.long ((aa.toUInt64 >>> ((40 : Int32) &&& 0x3f).toInt64.toUInt64).toInt64))])
  refine Own.Sit.ldc2 hG S45 hx (hW 8 _ rfl) rfl (hb hby own_dmethod_4_code_13) ?_
  show G T45 (mkF m 16 #[iv kd0, iv 5, .val (.long aa), .second, iv kp, iv c45, .unset] [(.long (255 : Int64)), (.long ((aa.toUInt64 >>> ((40 : Int32) &&& 0x3f).toInt64.toUInt64).toInt64))])
  refine hG.st (fun t q => XS.land S45.here hx rfl (hb hby own_dmethod_4_code_16) rfl (XS.l2i S45.here hx rfl (hb hby own_dmethod_4_code_17) rfl (XS.i2c S45.here hx rfl (hb hby own_dmethod_4_code_18) rfl (XS.istore S45.here hx rfl (hb hby own_dmethod_4_code_19) rfl (l' := #[iv kd0, iv 5, .val (.long aa), .second, iv kp, iv c45, iv (((((aa.toUInt64 >>> ((40 : Int32) &&& 0x3f).toInt64.toUInt64).toInt64) &&& (255 : Int64)).toInt32).toUInt32.toUInt16.toUInt32.toInt32)]) rfl (XS.iload S45.here hx rfl (hb hby own_dmethod_4_code_21) rfl q))))) ?_
  show G T45 (mkF m 23 #[iv kd0, iv 5, .val (.long aa), .second, iv kp, iv c45, iv (((((aa.toUInt64 >>> ((40 : Int32) &&& 0x3f).toInt64.toUInt64).toInt64) &&& (255 : Int64)).toInt32).toUInt32.toUInt16.toUInt32.toInt32)] [(.int c45)])
  by_cases hc23 : c45 = (0 : Int32)
  ·
    refine hG.st (fun t q => XS.ifYes S45.here hx rfl (pc0 := 23) (pc' := 38) rfl (hb hby own_dmethod_4_code_23) rfl ((if0 _ _).trans (teq hc23).1) (by decide) (by decide) (XS.iload S45.here hx rfl (hb hby own_dmethod_4_code_38) rfl q)) ?_
    show G T45 (mkF m 40 #[iv kd0, iv 5, .val (.long aa), .second, iv kp, iv c45, iv (((((aa.toUInt64 >>> ((40 : Int32) &&& 0x3f).toInt64.toUInt64).toInt64) &&& (255 : Int64)).toInt32).toUInt32.toUInt16.toUInt32.toInt32)] [(.int (((((aa.toUInt64 >>> ((40 : Int32) &&& 0x3f).toInt64.toUInt64).toInt64) &&& (255 : Int64)).toInt32).toUInt32.toUInt16.toUInt32.toInt32))])
    exact Own.Sit.retN hR S45 hx (t := .char) hret (by simp) (hb hby own_dmethod_4_code_40) (by decide) (by decide) ⟨J45.1, _, rfl, own_n2 (own_l255 _)⟩
  ·
    refine hG.st (fun t q => XS.ifNo S45.here hx rfl (hb hby own_dmethod_4_code_23) rfl ((if0 _ _).trans (feq hc23).1) (XS.iload S45.here hx rfl (hb hby own_dmethod_4_code_26) rfl (XS.iloadN S45.here hx rfl (hb hby own_dmethod_4_code_28) rfl (XS.iushr S45.here hx rfl (hb hby own_dmethod_4_code_29) rfl (XS.iconst S45.here hx rfl (hb hby own_dmethod_4_code_30) (XS.iand S45.here hx rfl (hb hby own_dmethod_4_code_31) rfl q)))))) ?_
    show G T45 (mkF m 32 #[iv kd0, iv 5, .val (.long aa), .second, iv kp, iv c45, iv (((((aa.toUInt64 >>> ((40 : Int32) &&& 0x3f).toInt64.toUInt64).toInt64) &&& (255 : Int64)).toInt32).toUInt32.toUInt16.toUInt32.toInt32)] [(.int (((kp.toUInt32 >>> ((5 : Int32) &&& 31).toUInt32).toInt32) &&& (1 : Int32)))])
    by_cases hc32 : (((kp.toUInt32 >>> ((5 : Int32) &&& 31).toUInt32).toInt32) &&& (1 : Int32)) = (0 : Int32)
    ·
      refine hG.st (fun t q => XS.ifYes S45.here hx rfl (pc0 := 32) (pc' := 38) rfl (hb hby own_dmethod_4_code_32) rfl ((if0 _ _).trans (teq hc32).1) (by decide) (by decide) (XS.iload S45.here hx rfl (hb hby own_dmethod_4_code_38) rfl q)) ?_
      show G T45 (mkF m 40 #[iv kd0, iv 5, .val (.long aa), .second, iv kp, iv c45, iv (((((aa.toUInt64 >>> ((40 : Int32) &&& 0x3f).toInt64.toUInt64).toInt64) &&& (255 : Int64)).toInt32).toUInt32.toUInt16.toUInt32.toInt32)] [(.int (((((aa.toUInt64 >>> ((40 : Int32) &&& 0x3f).toInt64.toUInt64).toInt64) &&& (255 : Int64)).toInt32).toUInt32.toUInt16.toUInt32.toInt32))])
      exact Own.Sit.retN hR S45 hx (t := .char) hret (by simp) (hb hby own_dmethod_4_code_40) (by decide) (by decide) ⟨J45.1, _, rfl, own_n2 (own_l255 _)⟩
    ·
      refine hG.st (fun t q => XS.ifNo S45.here hx rfl (hb hby own_dmethod_4_code_32) rfl ((if0 _ _).trans (feq hc32).1) (XS.iload S45.here hx rfl (hb hby own_dmethod_4_code_35) rfl q)) ?_
      show G T45 (mkF m 37 #[iv kd0, iv 5, .val (.long aa), .second, iv kp, iv c45, iv (((((aa.toUInt64 >>> ((40 : Int32) &&& 0x3f).toInt64.toUInt64).toInt64) &&& (255 : Int64)).toInt32).toUInt32.toUInt16.toUInt32.toInt32)] [(.int c45)])
      exact Own.Sit.retN hR S45 hx (t := .char) hret (by simp) (hb hby own_dmethod_4_code_37) (by decide) (by decide) ⟨J45.1, _, rfl, own_n2 r45⟩
theorem own_dmethod_3_code_45 : decode method_3_code 45 = .ok (.iconst 0, 1) := by decide +kernel
theorem own_dmethod_3_code_46 : decode method_3_code 46 = .ok (.ireturn, 1) := by decide +kernel
theorem own_ef_own_tmpl6 (m : MethodId) (kd0 : Int32) : entryFrame m #[(.int kd0), (.int 6)] 2 = mkF m 0 #[iv kd0, iv 6] [] := by first | (simp [entryFrame, mkF, argsToLocals, Value.category]; done) | rfl
set_option maxRecDepth 65536 in
set_option maxHeartbeats 40000000 in
theorem own_tmpl6 (l : Launch) (Z : State) (a0 : Array Value) (H : own_Wld Z a0) {cw : List Jvm.Cond} (kd0 : Int32) (h0 : Heap) (O0 : Ext Z.heap h0) :
    Own.Con l Z consts_1 (⟨"com/example/lorac/lorac/OperationNamedPinLaw", "tmpl", "(II)C"⟩ : MethodName) method_3_code 2 (some .char) cw ({ frames := 0, cells := 0, slots := 0, locals := 0 } : Room) #[(.int kd0), (.int 6)] h0 (fun v h => Keep h0 h [] ∧ ∃ c : Int32, v = some (.int c) ∧ ¬ c < 0 ∧ ¬ (255 : Int32) < c) := by
  have hw := H.1
  have hW := fun (i : Nat) (w : Jvm.Cond) (e : tables_1[i]? = some w) => hw w (List.mem_of_getElem? e)
  have hCm := H.2.1
  have hSi := H.2.2.1
  have hEL := H.2.2.2
  have hWs : ∀ d ∈ StrChars.Road.words, d.before a0 Z = true := fun d hd => hw d (own_wbackV d hd)
  have hWc : ∀ d ∈ StrChars.Road.wordsChN, d.before a0 Z = true := fun d hd => hw d (own_wchN d hd)
  have hWe : ∀ d ∈ StrChars.Road.wordsEq, d.before a0 Z = true := fun d hd => hw d (own_weqW d hd)
  have hSA : ∀ d ∈ Bundle.stringAtoms, d.before a0 Z = true := fun d hd => hw d (own_wSA d hd)
  refine Own.Con.of own_pn042529 hEL O0 ?_
  intro p e s m below meth c T0 G vm0 hx hby hml hret hnm hG hR S0
  have hz : ∀ L : Array Slot, L.size = 2 → L.size = c.maxLocals := fun L q => q.trans hml.symm
  rw [own_ef_own_tmpl6]
  show G T0 (mkF m 0 #[iv kd0, iv 6] [])
  refine hG.st (fun t q => XS.iloadN S0.here hx rfl (hb hby own_dmethod_3_code_0) rfl (XS.iconst S0.here hx rfl (hb hby own_dmethod_3_code_1) q)) ?_
  show G T0 (mkF m 2 #[iv kd0, iv 6] [(.int 1), (.int kd0)])
  by_cases hc2 : kd0 = (1 : Int32)
  ·
    refine hG.st (fun t q => XS.icmpNo S0.here hx rfl (hb hby own_dmethod_3_code_2) rfl (teq hc2).2 (XS.iloadN S0.here hx rfl (hb hby own_dmethod_3_code_5) rfl (XS.ifYes S0.here hx rfl (pc0 := 6) (pc' := 12) rfl (hb hby own_dmethod_3_code_6) rfl ((if0 _ _).trans (feq (by decide : ¬ ((6 : Int32) = (0 : Int32)))).2) (by decide) (by decide) (XS.iloadN S0.here hx rfl (hb hby own_dmethod_3_code_12) rfl (XS.iconst S0.here hx rfl (hb hby own_dmethod_3_code_13) (XS.icmpNo S0.here hx rfl (hb hby own_dmethod_3_code_14) rfl (feq (by decide : ¬ ((6 : Int32) = (1 : Int32)))).1 q)))))) ?_
    show G T0 (mkF m 17 #[iv kd0, iv 6] [])
    refine hG.st (fun t q => XS.iloadN S0.here hx rfl (hb hby own_dmethod_3_code_17) rfl (XS.iconst S0.here hx rfl (hb hby own_dmethod_3_code_18) (XS.icmpYes S0.here hx rfl (pc0 := 19) (pc' := 25) rfl (hb hby own_dmethod_3_code_19) rfl (feq (by decide : ¬ ((6 : Int32) = (2 : Int32)))).2 (by decide) (by decide) (XS.iconst S0.here hx rfl (hb hby own_dmethod_3_code_25) q)))) ?_
    show G T0 (mkF m 26 #[iv kd0, iv 6] [(.int 0)])
    exact Own.Sit.retN hR S0 hx (t := .char) hret (by simp) (hb hby own_dmethod_3_code_26) (by decide) (by decide) ⟨(Keep.refl _ _), _, rfl, by decide⟩
  ·
    refine hG.st (fun t q => XS.icmpYes S0.here hx rfl (pc0 := 2) (pc' := 27) rfl (hb hby own_dmethod_3_code_2) rfl (feq hc2).2 (by decide) (by decide) (XS.iloadN S0.here hx rfl (hb hby own_dmethod_3_code_27) rfl (XS.iconst S0.here hx rfl (hb hby own_dmethod_3_code_28) q))) ?_
    show G T0 (mkF m 29 #[iv kd0, iv 6] [(.int 2), (.int kd0)])
    by_cases hc29 : kd0 = (2 : Int32)
    ·
      refine hG.st (fun t q => XS.icmpNo S0.here hx rfl (hb hby own_dmethod_3_code_29) rfl (teq hc29).2 (XS.iloadN S0.here hx rfl (hb hby own_dmethod_3_code_32) rfl (XS.bipush S0.here hx rfl (hb hby own_dmethod_3_code_33) (XS.icmpYes S0.here hx rfl (pc0 := 35) (pc' := 45) rfl (hb hby own_dmethod_3_code_35) rfl (flt (by decide : ¬ ((6 : Int32) < (6 : Int32)))).2.1 (by decide) (by decide) (XS.iconst S0.here hx rfl (hb hby own_dmethod_3_code_45) q))))) ?_
      show G T0 (mkF m 46 #[iv kd0, iv 6] [(.int 0)])
      exact Own.Sit.retN hR S0 hx (t := .char) hret (by simp) (hb hby own_dmethod_3_code_46) (by decide) (by decide) ⟨(Keep.refl _ _), _, rfl, by decide⟩
    ·
      refine hG.st (fun t q => XS.icmpYes S0.here hx rfl (pc0 := 29) (pc' := 47) rfl (hb hby own_dmethod_3_code_29) rfl (feq hc29).2 (by decide) (by decide) (XS.iconst S0.here hx rfl (hb hby own_dmethod_3_code_47) q)) ?_
      show G T0 (mkF m 48 #[iv kd0, iv 6] [(.int 0)])
      exact Own.Sit.retN hR S0 hx (t := .char) hret (by simp) (hb hby own_dmethod_3_code_48) (by decide) (by decide) ⟨(Keep.refl _ _), _, rfl, by decide⟩
theorem own_ef_own_pick6 (m : MethodId) (kd0 : Int32) (aa : Int64) (kp : Int32) : entryFrame m #[(.int kd0), (.int 6), (.long aa), (.int kp)] 7 = mkF m 0 #[iv kd0, iv 6, .val (.long aa), .second, iv kp, .unset, .unset] [] := by first | (simp [entryFrame, mkF, argsToLocals, Value.category]; done) | rfl
set_option maxRecDepth 65536 in
set_option maxHeartbeats 40000000 in
theorem own_pick6 (l : Launch) (Z : State) (a0 : Array Value) (H : own_Wld Z a0) {cw : List Jvm.Cond} (kd0 : Int32) (aa : Int64) (kp : Int32) (h0 : Heap) (O0 : Ext Z.heap h0) :
    Own.Con l Z consts_1 (⟨"com/example/lorac/lorac/OperationNamedPinLaw", "pick", "(IIJI)C"⟩ : MethodName) method_4_code 7 (some .char) cw ({ frames := 1, cells := 0, slots := 0, locals := 13 } : Room) #[(.int kd0), (.int 6), (.long aa), (.int kp)] h0 (fun v h => Keep h0 h [] ∧ ∃ c : Int32, v = some (.int c) ∧ ¬ c < 0 ∧ ¬ (255 : Int32) < c) := by
  have hw := H.1
  have hW := fun (i : Nat) (w : Jvm.Cond) (e : tables_1[i]? = some w) => hw w (List.mem_of_getElem? e)
  have hCm := H.2.1
  have hSi := H.2.2.1
  have hEL := H.2.2.2
  have hWs : ∀ d ∈ StrChars.Road.words, d.before a0 Z = true := fun d hd => hw d (own_wbackV d hd)
  have hWc : ∀ d ∈ StrChars.Road.wordsChN, d.before a0 Z = true := fun d hd => hw d (own_wchN d hd)
  have hWe : ∀ d ∈ StrChars.Road.wordsEq, d.before a0 Z = true := fun d hd => hw d (own_weqW d hd)
  have hSA : ∀ d ∈ Bundle.stringAtoms, d.before a0 Z = true := fun d hd => hw d (own_wSA d hd)
  refine Own.Con.of own_pn0dd4ab hEL O0 ?_
  intro p e s m below meth c T0 G vm0 hx hby hml hret hnm hG hR S0
  have hz : ∀ L : Array Slot, L.size = 7 → L.size = c.maxLocals := fun L q => q.trans hml.symm
  rw [own_ef_own_pick6]
  show G T0 (mkF m 0 #[iv kd0, iv 6, .val (.long aa), .second, iv kp, .unset, .unset] [])
  refine hG.st (fun t q => XS.iloadN S0.here hx rfl (hb hby own_dmethod_4_code_0) rfl (XS.iloadN S0.here hx rfl (hb hby own_dmethod_4_code_1) rfl q)) ?_
  show G T0 (mkF m 2 #[iv kd0, iv 6, .val (.long aa), .second, iv kp, .unset, .unset] [(.int 6), (.int kd0)])
  refine Own.Sit.callS hG S0 hx hEL (as := [(.int kd0), (.int 6)]) (hW 5 _ rfl) (hW 6 _ rfl) (hW 3 _ rfl) (hW 7 _ rfl) (by decide) (own_tmpl6 l Z a0 H kd0 h0 S0.old) own_pddbdafe rfl rfl (hz _ rfl) (rest := []) rfl (W := 0) (by show 2 * 0 + _ ≤ _; exact Nat.le_of_eq rfl) (hb hby own_dmethod_4_code_2) (by decide) (by decide) (by decide) (by decide) (fun v46 vm46 T46 h46 S46 C46 q46 => ?_)
  obtain ⟨K46, c46, rfl, r46⟩ := q46
  have J46 : Own.Stp Z consts_1 vm0 h0 vm46 h46 [] := ⟨K46, C46⟩
  show G T46 (mkF m 5 #[iv kd0, iv 6, .val (.long aa), .second, iv kp, .unset, .unset] [(.int c46)])
  refine hG.st (fun t q => XS.istore S46.here hx rfl (hb hby own_dmethod_4_code_5) rfl (l' := #[iv kd0, iv 6, .val (.long aa), .second, iv kp, iv c46, .unset]) rfl (XS.lloadN S46.here hx rfl (hb hby own_dmethod_4_code_7) rfl (XS.bipush S46.here hx rfl (hb hby own_dmethod_4_code_8) (XS.iloadN S46.here hx rfl (hb hby own_dmethod_4_code_10) rfl (XS.imul S46.here hx rfl (hb hby own_dmethod_4_code_11) rfl (XS.lushr S46.here hx rfl (hb hby own_dmethod_4_code_12) rfl q)))))) ?_
  show G T46 (mkF m 13 #[iv kd0, iv 6, .val (.long aa), .second, iv kp, iv c46, .unset] [(.long ((aa.toUInt64 >>> ((48 : Int32) &&& 0x3f).toInt64.toUInt64).toInt64))])
  refine Own.Sit.ldc2 hG S46 hx (hW 8 _ rfl) rfl (hb hby own_dmethod_4_code_13) ?_
  show G T46 (mkF m 16 #[iv kd0, iv 6, .val (.long aa), .second, iv kp, iv c46, .unset] [(.long (255 : Int64)), (.long ((aa.toUInt64 >>> ((48 : Int32) &&& 0x3f).toInt64.toUInt64).toInt64))])
  refine hG.st (fun t q => XS.land S46.here hx rfl (hb hby own_dmethod_4_code_16) rfl (XS.l2i S46.here hx rfl (hb hby own_dmethod_4_code_17) rfl (XS.i2c S46.here hx rfl (hb hby own_dmethod_4_code_18) rfl (XS.istore S46.here hx rfl (hb hby own_dmethod_4_code_19) rfl (l' := #[iv kd0, iv 6, .val (.long aa), .second, iv kp, iv c46, iv (((((aa.toUInt64 >>> ((48 : Int32) &&& 0x3f).toInt64.toUInt64).toInt64) &&& (255 : Int64)).toInt32).toUInt32.toUInt16.toUInt32.toInt32)]) rfl (XS.iload S46.here hx rfl (hb hby own_dmethod_4_code_21) rfl q))))) ?_
  show G T46 (mkF m 23 #[iv kd0, iv 6, .val (.long aa), .second, iv kp, iv c46, iv (((((aa.toUInt64 >>> ((48 : Int32) &&& 0x3f).toInt64.toUInt64).toInt64) &&& (255 : Int64)).toInt32).toUInt32.toUInt16.toUInt32.toInt32)] [(.int c46)])
  by_cases hc23 : c46 = (0 : Int32)
  ·
    refine hG.st (fun t q => XS.ifYes S46.here hx rfl (pc0 := 23) (pc' := 38) rfl (hb hby own_dmethod_4_code_23) rfl ((if0 _ _).trans (teq hc23).1) (by decide) (by decide) (XS.iload S46.here hx rfl (hb hby own_dmethod_4_code_38) rfl q)) ?_
    show G T46 (mkF m 40 #[iv kd0, iv 6, .val (.long aa), .second, iv kp, iv c46, iv (((((aa.toUInt64 >>> ((48 : Int32) &&& 0x3f).toInt64.toUInt64).toInt64) &&& (255 : Int64)).toInt32).toUInt32.toUInt16.toUInt32.toInt32)] [(.int (((((aa.toUInt64 >>> ((48 : Int32) &&& 0x3f).toInt64.toUInt64).toInt64) &&& (255 : Int64)).toInt32).toUInt32.toUInt16.toUInt32.toInt32))])
    exact Own.Sit.retN hR S46 hx (t := .char) hret (by simp) (hb hby own_dmethod_4_code_40) (by decide) (by decide) ⟨J46.1, _, rfl, own_n2 (own_l255 _)⟩
  ·
    refine hG.st (fun t q => XS.ifNo S46.here hx rfl (hb hby own_dmethod_4_code_23) rfl ((if0 _ _).trans (feq hc23).1) (XS.iload S46.here hx rfl (hb hby own_dmethod_4_code_26) rfl (XS.iloadN S46.here hx rfl (hb hby own_dmethod_4_code_28) rfl (XS.iushr S46.here hx rfl (hb hby own_dmethod_4_code_29) rfl (XS.iconst S46.here hx rfl (hb hby own_dmethod_4_code_30) (XS.iand S46.here hx rfl (hb hby own_dmethod_4_code_31) rfl q)))))) ?_
    show G T46 (mkF m 32 #[iv kd0, iv 6, .val (.long aa), .second, iv kp, iv c46, iv (((((aa.toUInt64 >>> ((48 : Int32) &&& 0x3f).toInt64.toUInt64).toInt64) &&& (255 : Int64)).toInt32).toUInt32.toUInt16.toUInt32.toInt32)] [(.int (((kp.toUInt32 >>> ((6 : Int32) &&& 31).toUInt32).toInt32) &&& (1 : Int32)))])
    by_cases hc32 : (((kp.toUInt32 >>> ((6 : Int32) &&& 31).toUInt32).toInt32) &&& (1 : Int32)) = (0 : Int32)
    ·
      refine hG.st (fun t q => XS.ifYes S46.here hx rfl (pc0 := 32) (pc' := 38) rfl (hb hby own_dmethod_4_code_32) rfl ((if0 _ _).trans (teq hc32).1) (by decide) (by decide) (XS.iload S46.here hx rfl (hb hby own_dmethod_4_code_38) rfl q)) ?_
      show G T46 (mkF m 40 #[iv kd0, iv 6, .val (.long aa), .second, iv kp, iv c46, iv (((((aa.toUInt64 >>> ((48 : Int32) &&& 0x3f).toInt64.toUInt64).toInt64) &&& (255 : Int64)).toInt32).toUInt32.toUInt16.toUInt32.toInt32)] [(.int (((((aa.toUInt64 >>> ((48 : Int32) &&& 0x3f).toInt64.toUInt64).toInt64) &&& (255 : Int64)).toInt32).toUInt32.toUInt16.toUInt32.toInt32))])
      exact Own.Sit.retN hR S46 hx (t := .char) hret (by simp) (hb hby own_dmethod_4_code_40) (by decide) (by decide) ⟨J46.1, _, rfl, own_n2 (own_l255 _)⟩
    ·
      refine hG.st (fun t q => XS.ifNo S46.here hx rfl (hb hby own_dmethod_4_code_32) rfl ((if0 _ _).trans (feq hc32).1) (XS.iload S46.here hx rfl (hb hby own_dmethod_4_code_35) rfl q)) ?_
      show G T46 (mkF m 37 #[iv kd0, iv 6, .val (.long aa), .second, iv kp, iv c46, iv (((((aa.toUInt64 >>> ((48 : Int32) &&& 0x3f).toInt64.toUInt64).toInt64) &&& (255 : Int64)).toInt32).toUInt32.toUInt16.toUInt32.toInt32)] [(.int c46)])
      exact Own.Sit.retN hR S46 hx (t := .char) hret (by simp) (hb hby own_dmethod_4_code_37) (by decide) (by decide) ⟨J46.1, _, rfl, own_n2 r46⟩
theorem own_ef_own_tmpl7 (m : MethodId) (kd0 : Int32) : entryFrame m #[(.int kd0), (.int 7)] 2 = mkF m 0 #[iv kd0, iv 7] [] := by first | (simp [entryFrame, mkF, argsToLocals, Value.category]; done) | rfl
set_option maxRecDepth 65536 in
set_option maxHeartbeats 40000000 in
theorem own_tmpl7 (l : Launch) (Z : State) (a0 : Array Value) (H : own_Wld Z a0) {cw : List Jvm.Cond} (kd0 : Int32) (h0 : Heap) (O0 : Ext Z.heap h0) :
    Own.Con l Z consts_1 (⟨"com/example/lorac/lorac/OperationNamedPinLaw", "tmpl", "(II)C"⟩ : MethodName) method_3_code 2 (some .char) cw ({ frames := 0, cells := 0, slots := 0, locals := 0 } : Room) #[(.int kd0), (.int 7)] h0 (fun v h => Keep h0 h [] ∧ ∃ c : Int32, v = some (.int c) ∧ ¬ c < 0 ∧ ¬ (255 : Int32) < c) := by
  have hw := H.1
  have hW := fun (i : Nat) (w : Jvm.Cond) (e : tables_1[i]? = some w) => hw w (List.mem_of_getElem? e)
  have hCm := H.2.1
  have hSi := H.2.2.1
  have hEL := H.2.2.2
  have hWs : ∀ d ∈ StrChars.Road.words, d.before a0 Z = true := fun d hd => hw d (own_wbackV d hd)
  have hWc : ∀ d ∈ StrChars.Road.wordsChN, d.before a0 Z = true := fun d hd => hw d (own_wchN d hd)
  have hWe : ∀ d ∈ StrChars.Road.wordsEq, d.before a0 Z = true := fun d hd => hw d (own_weqW d hd)
  have hSA : ∀ d ∈ Bundle.stringAtoms, d.before a0 Z = true := fun d hd => hw d (own_wSA d hd)
  refine Own.Con.of own_pn042529 hEL O0 ?_
  intro p e s m below meth c T0 G vm0 hx hby hml hret hnm hG hR S0
  have hz : ∀ L : Array Slot, L.size = 2 → L.size = c.maxLocals := fun L q => q.trans hml.symm
  rw [own_ef_own_tmpl7]
  show G T0 (mkF m 0 #[iv kd0, iv 7] [])
  refine hG.st (fun t q => XS.iloadN S0.here hx rfl (hb hby own_dmethod_3_code_0) rfl (XS.iconst S0.here hx rfl (hb hby own_dmethod_3_code_1) q)) ?_
  show G T0 (mkF m 2 #[iv kd0, iv 7] [(.int 1), (.int kd0)])
  by_cases hc2 : kd0 = (1 : Int32)
  ·
    refine hG.st (fun t q => XS.icmpNo S0.here hx rfl (hb hby own_dmethod_3_code_2) rfl (teq hc2).2 (XS.iloadN S0.here hx rfl (hb hby own_dmethod_3_code_5) rfl (XS.ifYes S0.here hx rfl (pc0 := 6) (pc' := 12) rfl (hb hby own_dmethod_3_code_6) rfl ((if0 _ _).trans (feq (by decide : ¬ ((7 : Int32) = (0 : Int32)))).2) (by decide) (by decide) (XS.iloadN S0.here hx rfl (hb hby own_dmethod_3_code_12) rfl (XS.iconst S0.here hx rfl (hb hby own_dmethod_3_code_13) (XS.icmpNo S0.here hx rfl (hb hby own_dmethod_3_code_14) rfl (feq (by decide : ¬ ((7 : Int32) = (1 : Int32)))).1 q)))))) ?_
    show G T0 (mkF m 17 #[iv kd0, iv 7] [])
    refine hG.st (fun t q => XS.iloadN S0.here hx rfl (hb hby own_dmethod_3_code_17) rfl (XS.iconst S0.here hx rfl (hb hby own_dmethod_3_code_18) (XS.icmpYes S0.here hx rfl (pc0 := 19) (pc' := 25) rfl (hb hby own_dmethod_3_code_19) rfl (feq (by decide : ¬ ((7 : Int32) = (2 : Int32)))).2 (by decide) (by decide) (XS.iconst S0.here hx rfl (hb hby own_dmethod_3_code_25) q)))) ?_
    show G T0 (mkF m 26 #[iv kd0, iv 7] [(.int 0)])
    exact Own.Sit.retN hR S0 hx (t := .char) hret (by simp) (hb hby own_dmethod_3_code_26) (by decide) (by decide) ⟨(Keep.refl _ _), _, rfl, by decide⟩
  ·
    refine hG.st (fun t q => XS.icmpYes S0.here hx rfl (pc0 := 2) (pc' := 27) rfl (hb hby own_dmethod_3_code_2) rfl (feq hc2).2 (by decide) (by decide) (XS.iloadN S0.here hx rfl (hb hby own_dmethod_3_code_27) rfl (XS.iconst S0.here hx rfl (hb hby own_dmethod_3_code_28) q))) ?_
    show G T0 (mkF m 29 #[iv kd0, iv 7] [(.int 2), (.int kd0)])
    by_cases hc29 : kd0 = (2 : Int32)
    ·
      refine hG.st (fun t q => XS.icmpNo S0.here hx rfl (hb hby own_dmethod_3_code_29) rfl (teq hc29).2 (XS.iloadN S0.here hx rfl (hb hby own_dmethod_3_code_32) rfl (XS.bipush S0.here hx rfl (hb hby own_dmethod_3_code_33) (XS.icmpYes S0.here hx rfl (pc0 := 35) (pc' := 45) rfl (hb hby own_dmethod_3_code_35) rfl (flt (by decide : ¬ ((7 : Int32) < (6 : Int32)))).2.1 (by decide) (by decide) (XS.iconst S0.here hx rfl (hb hby own_dmethod_3_code_45) q))))) ?_
      show G T0 (mkF m 46 #[iv kd0, iv 7] [(.int 0)])
      exact Own.Sit.retN hR S0 hx (t := .char) hret (by simp) (hb hby own_dmethod_3_code_46) (by decide) (by decide) ⟨(Keep.refl _ _), _, rfl, by decide⟩
    ·
      refine hG.st (fun t q => XS.icmpYes S0.here hx rfl (pc0 := 29) (pc' := 47) rfl (hb hby own_dmethod_3_code_29) rfl (feq hc29).2 (by decide) (by decide) (XS.iconst S0.here hx rfl (hb hby own_dmethod_3_code_47) q)) ?_
      show G T0 (mkF m 48 #[iv kd0, iv 7] [(.int 0)])
      exact Own.Sit.retN hR S0 hx (t := .char) hret (by simp) (hb hby own_dmethod_3_code_48) (by decide) (by decide) ⟨(Keep.refl _ _), _, rfl, by decide⟩
theorem own_ef_own_pick7 (m : MethodId) (kd0 : Int32) (aa : Int64) (kp : Int32) : entryFrame m #[(.int kd0), (.int 7), (.long aa), (.int kp)] 7 = mkF m 0 #[iv kd0, iv 7, .val (.long aa), .second, iv kp, .unset, .unset] [] := by first | (simp [entryFrame, mkF, argsToLocals, Value.category]; done) | rfl
set_option maxRecDepth 65536 in
set_option maxHeartbeats 40000000 in
theorem own_pick7 (l : Launch) (Z : State) (a0 : Array Value) (H : own_Wld Z a0) {cw : List Jvm.Cond} (kd0 : Int32) (aa : Int64) (kp : Int32) (h0 : Heap) (O0 : Ext Z.heap h0) :
    Own.Con l Z consts_1 (⟨"com/example/lorac/lorac/OperationNamedPinLaw", "pick", "(IIJI)C"⟩ : MethodName) method_4_code 7 (some .char) cw ({ frames := 1, cells := 0, slots := 0, locals := 13 } : Room) #[(.int kd0), (.int 7), (.long aa), (.int kp)] h0 (fun v h => Keep h0 h [] ∧ ∃ c : Int32, v = some (.int c) ∧ ¬ c < 0 ∧ ¬ (255 : Int32) < c) := by
  have hw := H.1
  have hW := fun (i : Nat) (w : Jvm.Cond) (e : tables_1[i]? = some w) => hw w (List.mem_of_getElem? e)
  have hCm := H.2.1
  have hSi := H.2.2.1
  have hEL := H.2.2.2
  have hWs : ∀ d ∈ StrChars.Road.words, d.before a0 Z = true := fun d hd => hw d (own_wbackV d hd)
  have hWc : ∀ d ∈ StrChars.Road.wordsChN, d.before a0 Z = true := fun d hd => hw d (own_wchN d hd)
  have hWe : ∀ d ∈ StrChars.Road.wordsEq, d.before a0 Z = true := fun d hd => hw d (own_weqW d hd)
  have hSA : ∀ d ∈ Bundle.stringAtoms, d.before a0 Z = true := fun d hd => hw d (own_wSA d hd)
  refine Own.Con.of own_pn0dd4ab hEL O0 ?_
  intro p e s m below meth c T0 G vm0 hx hby hml hret hnm hG hR S0
  have hz : ∀ L : Array Slot, L.size = 7 → L.size = c.maxLocals := fun L q => q.trans hml.symm
  rw [own_ef_own_pick7]
  show G T0 (mkF m 0 #[iv kd0, iv 7, .val (.long aa), .second, iv kp, .unset, .unset] [])
  refine hG.st (fun t q => XS.iloadN S0.here hx rfl (hb hby own_dmethod_4_code_0) rfl (XS.iloadN S0.here hx rfl (hb hby own_dmethod_4_code_1) rfl q)) ?_
  show G T0 (mkF m 2 #[iv kd0, iv 7, .val (.long aa), .second, iv kp, .unset, .unset] [(.int 7), (.int kd0)])
  refine Own.Sit.callS hG S0 hx hEL (as := [(.int kd0), (.int 7)]) (hW 5 _ rfl) (hW 6 _ rfl) (hW 3 _ rfl) (hW 7 _ rfl) (by decide) (own_tmpl7 l Z a0 H kd0 h0 S0.old) own_pddbdafe rfl rfl (hz _ rfl) (rest := []) rfl (W := 0) (by show 2 * 0 + _ ≤ _; exact Nat.le_of_eq rfl) (hb hby own_dmethod_4_code_2) (by decide) (by decide) (by decide) (by decide) (fun v47 vm47 T47 h47 S47 C47 q47 => ?_)
  obtain ⟨K47, c47, rfl, r47⟩ := q47
  have J47 : Own.Stp Z consts_1 vm0 h0 vm47 h47 [] := ⟨K47, C47⟩
  show G T47 (mkF m 5 #[iv kd0, iv 7, .val (.long aa), .second, iv kp, .unset, .unset] [(.int c47)])
  refine hG.st (fun t q => XS.istore S47.here hx rfl (hb hby own_dmethod_4_code_5) rfl (l' := #[iv kd0, iv 7, .val (.long aa), .second, iv kp, iv c47, .unset]) rfl (XS.lloadN S47.here hx rfl (hb hby own_dmethod_4_code_7) rfl (XS.bipush S47.here hx rfl (hb hby own_dmethod_4_code_8) (XS.iloadN S47.here hx rfl (hb hby own_dmethod_4_code_10) rfl (XS.imul S47.here hx rfl (hb hby own_dmethod_4_code_11) rfl (XS.lushr S47.here hx rfl (hb hby own_dmethod_4_code_12) rfl q)))))) ?_
  show G T47 (mkF m 13 #[iv kd0, iv 7, .val (.long aa), .second, iv kp, iv c47, .unset] [(.long ((aa.toUInt64 >>> ((56 : Int32) &&& 0x3f).toInt64.toUInt64).toInt64))])
  refine Own.Sit.ldc2 hG S47 hx (hW 8 _ rfl) rfl (hb hby own_dmethod_4_code_13) ?_
  show G T47 (mkF m 16 #[iv kd0, iv 7, .val (.long aa), .second, iv kp, iv c47, .unset] [(.long (255 : Int64)), (.long ((aa.toUInt64 >>> ((56 : Int32) &&& 0x3f).toInt64.toUInt64).toInt64))])
  refine hG.st (fun t q => XS.land S47.here hx rfl (hb hby own_dmethod_4_code_16) rfl (XS.l2i S47.here hx rfl (hb hby own_dmethod_4_code_17) rfl (XS.i2c S47.here hx rfl (hb hby own_dmethod_4_code_18) rfl (XS.istore S47.here hx rfl (hb hby own_dmethod_4_code_19) rfl (l' := #[iv kd0, iv 7, .val (.long aa), .second, iv kp, iv c47, iv (((((aa.toUInt64 >>> ((56 : Int32) &&& 0x3f).toInt64.toUInt64).toInt64) &&& (255 : Int64)).toInt32).toUInt32.toUInt16.toUInt32.toInt32)]) rfl (XS.iload S47.here hx rfl (hb hby own_dmethod_4_code_21) rfl q))))) ?_
  show G T47 (mkF m 23 #[iv kd0, iv 7, .val (.long aa), .second, iv kp, iv c47, iv (((((aa.toUInt64 >>> ((56 : Int32) &&& 0x3f).toInt64.toUInt64).toInt64) &&& (255 : Int64)).toInt32).toUInt32.toUInt16.toUInt32.toInt32)] [(.int c47)])
  by_cases hc23 : c47 = (0 : Int32)
  ·
    refine hG.st (fun t q => XS.ifYes S47.here hx rfl (pc0 := 23) (pc' := 38) rfl (hb hby own_dmethod_4_code_23) rfl ((if0 _ _).trans (teq hc23).1) (by decide) (by decide) (XS.iload S47.here hx rfl (hb hby own_dmethod_4_code_38) rfl q)) ?_
    show G T47 (mkF m 40 #[iv kd0, iv 7, .val (.long aa), .second, iv kp, iv c47, iv (((((aa.toUInt64 >>> ((56 : Int32) &&& 0x3f).toInt64.toUInt64).toInt64) &&& (255 : Int64)).toInt32).toUInt32.toUInt16.toUInt32.toInt32)] [(.int (((((aa.toUInt64 >>> ((56 : Int32) &&& 0x3f).toInt64.toUInt64).toInt64) &&& (255 : Int64)).toInt32).toUInt32.toUInt16.toUInt32.toInt32))])
    exact Own.Sit.retN hR S47 hx (t := .char) hret (by simp) (hb hby own_dmethod_4_code_40) (by decide) (by decide) ⟨J47.1, _, rfl, own_n2 (own_l255 _)⟩
  ·
    refine hG.st (fun t q => XS.ifNo S47.here hx rfl (hb hby own_dmethod_4_code_23) rfl ((if0 _ _).trans (feq hc23).1) (XS.iload S47.here hx rfl (hb hby own_dmethod_4_code_26) rfl (XS.iloadN S47.here hx rfl (hb hby own_dmethod_4_code_28) rfl (XS.iushr S47.here hx rfl (hb hby own_dmethod_4_code_29) rfl (XS.iconst S47.here hx rfl (hb hby own_dmethod_4_code_30) (XS.iand S47.here hx rfl (hb hby own_dmethod_4_code_31) rfl q)))))) ?_
    show G T47 (mkF m 32 #[iv kd0, iv 7, .val (.long aa), .second, iv kp, iv c47, iv (((((aa.toUInt64 >>> ((56 : Int32) &&& 0x3f).toInt64.toUInt64).toInt64) &&& (255 : Int64)).toInt32).toUInt32.toUInt16.toUInt32.toInt32)] [(.int (((kp.toUInt32 >>> ((7 : Int32) &&& 31).toUInt32).toInt32) &&& (1 : Int32)))])
    by_cases hc32 : (((kp.toUInt32 >>> ((7 : Int32) &&& 31).toUInt32).toInt32) &&& (1 : Int32)) = (0 : Int32)
    ·
      refine hG.st (fun t q => XS.ifYes S47.here hx rfl (pc0 := 32) (pc' := 38) rfl (hb hby own_dmethod_4_code_32) rfl ((if0 _ _).trans (teq hc32).1) (by decide) (by decide) (XS.iload S47.here hx rfl (hb hby own_dmethod_4_code_38) rfl q)) ?_
      show G T47 (mkF m 40 #[iv kd0, iv 7, .val (.long aa), .second, iv kp, iv c47, iv (((((aa.toUInt64 >>> ((56 : Int32) &&& 0x3f).toInt64.toUInt64).toInt64) &&& (255 : Int64)).toInt32).toUInt32.toUInt16.toUInt32.toInt32)] [(.int (((((aa.toUInt64 >>> ((56 : Int32) &&& 0x3f).toInt64.toUInt64).toInt64) &&& (255 : Int64)).toInt32).toUInt32.toUInt16.toUInt32.toInt32))])
      exact Own.Sit.retN hR S47 hx (t := .char) hret (by simp) (hb hby own_dmethod_4_code_40) (by decide) (by decide) ⟨J47.1, _, rfl, own_n2 (own_l255 _)⟩
    ·
      refine hG.st (fun t q => XS.ifNo S47.here hx rfl (hb hby own_dmethod_4_code_32) rfl ((if0 _ _).trans (feq hc32).1) (XS.iload S47.here hx rfl (hb hby own_dmethod_4_code_35) rfl q)) ?_
      show G T47 (mkF m 37 #[iv kd0, iv 7, .val (.long aa), .second, iv kp, iv c47, iv (((((aa.toUInt64 >>> ((56 : Int32) &&& 0x3f).toInt64.toUInt64).toInt64) &&& (255 : Int64)).toInt32).toUInt32.toUInt16.toUInt32.toInt32)] [(.int c47)])
      exact Own.Sit.retN hR S47 hx (t := .char) hret (by simp) (hb hby own_dmethod_4_code_37) (by decide) (by decide) ⟨J47.1, _, rfl, own_n2 r47⟩
theorem own_pn453927 : plainFor (⟨"com/example/lorac/lorac/OperationNamedPinLaw", "str", "([CI)Ljava/lang/String;"⟩ : MethodName) = true := by first | exact plainFor_of_name (by first | (simp [plainName, overriddenIn]; done) | decide +kernel) | decide +kernel
theorem own_pd827e25 : parseMethodDescriptor "([C)V" = some ⟨[(.array .char)], none⟩ := by decide +kernel
theorem own_dmethod_5_code_0 : decode method_5_code 0 = .ok (.iload_n 1, 1) := by decide +kernel
theorem own_dmethod_5_code_1 : decode method_5_code 1 = .ok (.ifCond .ne 14, 3) := by decide +kernel
theorem own_dmethod_5_code_4 : decode method_5_code 4 = .ok (.new 39, 3) := by decide +kernel
theorem own_dmethod_5_code_7 : decode method_5_code 7 = .ok (.dup, 1) := by decide +kernel
theorem own_dmethod_5_code_8 : decode method_5_code 8 = .ok (.iconst 0, 1) := by decide +kernel
theorem own_dmethod_5_code_9 : decode method_5_code 9 = .ok (.newarray .char, 2) := by decide +kernel
theorem own_dmethod_5_code_11 : decode method_5_code 11 = .ok (.invokespecial 50, 3) := by decide +kernel
theorem own_dmethod_5_code_14 : decode method_5_code 14 = .ok (.areturn, 1) := by decide +kernel
theorem own_ef_own_str0 (m : MethodId) (b : Addr) : entryFrame m #[(.ref b), (.int 0)] 2 = mkF m 0 #[rv b, iv 0] [] := by first | (simp [entryFrame, mkF, argsToLocals, Value.category]; done) | rfl
set_option maxRecDepth 65536 in
set_option maxHeartbeats 40000000 in
theorem own_str0 (l : Launch) (Z : State) (a0 : Array Value) (H : own_Wld Z a0) {cw : List Jvm.Cond} (b : Addr) (c0 : Int32) (c1 : Int32) (c2 : Int32) (c3 : Int32) (c4 : Int32) (c5 : Int32) (c6 : Int32) (c7 : Int32) (h0 : Heap) (O0 : Ext Z.heap h0) {kb : ClassId} {dv : Value} (A_b : Arv Z h0 b kb .char (8 : Int32) [(.int c0), (.int c1), (.int c2), (.int c3), (.int c4), (.int c5), (.int c6), (.int c7)] dv) (r_c0 : ¬ c0 < 0 ∧ ¬ (255 : Int32) < c0) (r_c1 : ¬ c1 < 0 ∧ ¬ (255 : Int32) < c1) (r_c2 : ¬ c2 < 0 ∧ ¬ (255 : Int32) < c2) (r_c3 : ¬ c3 < 0 ∧ ¬ (255 : Int32) < c3) (r_c4 : ¬ c4 < 0 ∧ ¬ (255 : Int32) < c4) (r_c5 : ¬ c5 < 0 ∧ ¬ (255 : Int32) < c5) (r_c6 : ¬ c6 < 0 ∧ ¬ (255 : Int32) < c6) (r_c7 : ¬ c7 < 0 ∧ ¬ (255 : Int32) < c7) :
    Own.Con l Z consts_1 (⟨"com/example/lorac/lorac/OperationNamedPinLaw", "str", "([CI)Ljava/lang/String;"⟩ : MethodName) method_5_code 2 (some (.object "java/lang/String")) cw ({ frames := 3, cells := 6, slots := 12, locals := 43 } : Room) #[(.ref b), (.int 0)] h0 (fun v h => Keep h0 h [] ∧ ∃ x t, v = some (.ref x) ∧ Own.Str Z h x t ([] : List Int32) ∧ h0.size ≤ x) := by
  have hw := H.1
  have hW := fun (i : Nat) (w : Jvm.Cond) (e : tables_1[i]? = some w) => hw w (List.mem_of_getElem? e)
  have hCm := H.2.1
  have hSi := H.2.2.1
  have hEL := H.2.2.2
  have hWs : ∀ d ∈ StrChars.Road.words, d.before a0 Z = true := fun d hd => hw d (own_wbackV d hd)
  have hWc : ∀ d ∈ StrChars.Road.wordsChN, d.before a0 Z = true := fun d hd => hw d (own_wchN d hd)
  have hWe : ∀ d ∈ StrChars.Road.wordsEq, d.before a0 Z = true := fun d hd => hw d (own_weqW d hd)
  have hSA : ∀ d ∈ Bundle.stringAtoms, d.before a0 Z = true := fun d hd => hw d (own_wSA d hd)
  refine Own.Con.of own_pn453927 hEL O0 ?_
  intro p e s m below meth c T0 G vm0 hx hby hml hret hnm hG hR S0
  have hz : ∀ L : Array Slot, L.size = 2 → L.size = c.maxLocals := fun L q => q.trans hml.symm
  rw [own_ef_own_str0]
  show G T0 (mkF m 0 #[rv b, iv 0] [])
  refine hG.st (fun t q => XS.iloadN S0.here hx rfl (hb hby own_dmethod_5_code_0) rfl (XS.ifNo S0.here hx rfl (hb hby own_dmethod_5_code_1) rfl ((if0 _ _).trans (teq (by decide : (0 : Int32) = (0 : Int32))).2) q)) ?_
  show G T0 (mkF m 4 #[rv b, iv 0] [])
  refine Own.Sit.newO hG S0 hx (hW 12 _ rfl) (hW 13 _ rfl) (hW 14 _ rfl) rfl (hb hby own_dmethod_5_code_4) (by decide) (by decide) (fun T48 h48 x48 g_x48 S48 J48 Sf48 E48 D48 => ?_)
  have lt_x48 := E48.lt
  have ga_x48 : Z.heap.size ≤ x48 := Nat.le_trans S0.le (Nat.le_of_eq g_x48.symm)
  have F49 : Fld Z h48 x48 "java/lang/String" "coder" "B" (.int 0) := D48 (Or.inr (hW 38 _ rfl)) (ty := .byte) (by decide)
  have F50 : Fld Z h48 x48 "java/lang/String" "value" "[B" .null := D48 (Or.inr (hW 40 _ rfl)) (ty := (.array .byte)) (by decide)
  show G T48 (mkF m 7 #[rv b, iv 0] [(.ref x48)])
  refine hG.st (fun t q => XS.dup S48.here hx rfl (hb hby own_dmethod_5_code_7) rfl rfl (XS.iconst S48.here hx rfl (hb hby own_dmethod_5_code_8) q)) ?_
  show G T48 (mkF m 9 #[rv b, iv 0] [(.int 0), (.ref x48), (.ref x48)])
  refine Own.Sit.newP hG S48 hx (aty := .char) (hW 0 _ rfl) rfl (hb hby own_dmethod_5_code_9) rfl (by decide) (cap := 0) (by decide) (by decide) (by decide) (by decide) (fun T51 h51 x51 k51 g_x51 S51 J51 Sf51 (V51 : Arv Z h51 x51 k51 .char (0 : Int32) [] (.int 0)) => ?_)
  have lt_x51 := V51.lt
  have ga_x51 : Z.heap.size ≤ x51 := Nat.le_trans S48.le (Nat.le_of_eq g_x51.symm)
  show G T51 (mkF m 11 #[rv b, iv 0] [(.ref x51), (.ref x48), (.ref x48)])
  have E52 := J51.exa E48
  have F53 := J51.fld F50 nin0
  have F54 := J51.fld F49 nin0
  refine Own.Sit.callI hG S51 hx hEL rfl (as := [(.ref x51)]) (hW 15 _ rfl) (hW 16 _ rfl) (hW 14 _ rfl) (hW 17 _ rfl) (by decide) (own_emp1 l Z a0 H x48 x51 h51 S51.old ga_x48 E52 F53 F54 V51) own_pd827e25 rfl rfl (hz _ rfl) (rest := [(.ref x48)]) rfl (W := 1) (by show 2 * 0 + _ ≤ _; exact Nat.le_of_eq rfl) (hb hby own_dmethod_5_code_11) (by decide) (by decide) (by decide) (by decide) (fun v55 vm55 T55 h55 S55 C55 q55 => ?_)
  obtain ⟨K55, rfl, y55, St55⟩ := q55
  have J55 : Own.Stp Z consts_1 vm0 h51 vm55 h55 [x48] := ⟨K55, C55⟩
  show G T55 (mkF m 14 #[rv b, iv 0] [(.ref x48)])
  have J56 : Own.Stp Z consts_1 vm0 h0 vm0 h51 [] := Own.Stp.trans J48 J51 (all0) all0
  have J57 : Own.Stp Z consts_1 vm0 h0 vm55 h55 [] := Own.Stp.trans J56 J55 (all0) (allS (Or.inr (Nat.le_of_eq g_x48.symm)) all0)
  exact Own.Sit.retO hR S55 hx hret rfl (Or.inr (Or.inr (Or.inr (Or.inr ⟨rfl, rfl, rfl⟩)))) (hb hby own_dmethod_5_code_14) (by decide) (by decide) ⟨J57.1, x48, _, rfl, St55, (Nat.le_of_eq g_x48.symm)⟩
theorem own_dmethod_5_code_15 : decode method_5_code 15 = .ok (.iload_n 1, 1) := by decide +kernel
theorem own_dmethod_5_code_16 : decode method_5_code 16 = .ok (.iconst 1, 1) := by decide +kernel
theorem own_dmethod_5_code_17 : decode method_5_code 17 = .ok (.if_icmp .ne 20, 3) := by decide +kernel
theorem own_dmethod_5_code_20 : decode method_5_code 20 = .ok (.new 39, 3) := by decide +kernel
theorem own_dmethod_5_code_23 : decode method_5_code 23 = .ok (.dup, 1) := by decide +kernel
theorem own_dmethod_5_code_24 : decode method_5_code 24 = .ok (.iconst 1, 1) := by decide +kernel
theorem own_dmethod_5_code_25 : decode method_5_code 25 = .ok (.newarray .char, 2) := by decide +kernel
theorem own_dmethod_5_code_27 : decode method_5_code 27 = .ok (.dup, 1) := by decide +kernel
theorem own_dmethod_5_code_28 : decode method_5_code 28 = .ok (.iconst 0, 1) := by decide +kernel
theorem own_dmethod_5_code_29 : decode method_5_code 29 = .ok (.aload_n 0, 1) := by decide +kernel
theorem own_dmethod_5_code_30 : decode method_5_code 30 = .ok (.iconst 0, 1) := by decide +kernel
theorem own_dmethod_5_code_31 : decode method_5_code 31 = .ok (.caload, 1) := by decide +kernel
theorem own_dmethod_5_code_32 : decode method_5_code 32 = .ok (.castore, 1) := by decide +kernel
theorem own_dmethod_5_code_33 : decode method_5_code 33 = .ok (.invokespecial 50, 3) := by decide +kernel
theorem own_dmethod_5_code_36 : decode method_5_code 36 = .ok (.areturn, 1) := by decide +kernel
theorem own_ef_own_str1 (m : MethodId) (b : Addr) : entryFrame m #[(.ref b), (.int 1)] 2 = mkF m 0 #[rv b, iv 1] [] := by first | (simp [entryFrame, mkF, argsToLocals, Value.category]; done) | rfl
set_option maxRecDepth 65536 in
set_option maxHeartbeats 40000000 in
theorem own_str1 (l : Launch) (Z : State) (a0 : Array Value) (H : own_Wld Z a0) {cw : List Jvm.Cond} (b : Addr) (c0 : Int32) (c1 : Int32) (c2 : Int32) (c3 : Int32) (c4 : Int32) (c5 : Int32) (c6 : Int32) (c7 : Int32) (h0 : Heap) (O0 : Ext Z.heap h0) {kb : ClassId} {dv : Value} (A_b : Arv Z h0 b kb .char (8 : Int32) [(.int c0), (.int c1), (.int c2), (.int c3), (.int c4), (.int c5), (.int c6), (.int c7)] dv) (r_c0 : ¬ c0 < 0 ∧ ¬ (255 : Int32) < c0) (r_c1 : ¬ c1 < 0 ∧ ¬ (255 : Int32) < c1) (r_c2 : ¬ c2 < 0 ∧ ¬ (255 : Int32) < c2) (r_c3 : ¬ c3 < 0 ∧ ¬ (255 : Int32) < c3) (r_c4 : ¬ c4 < 0 ∧ ¬ (255 : Int32) < c4) (r_c5 : ¬ c5 < 0 ∧ ¬ (255 : Int32) < c5) (r_c6 : ¬ c6 < 0 ∧ ¬ (255 : Int32) < c6) (r_c7 : ¬ c7 < 0 ∧ ¬ (255 : Int32) < c7) :
    Own.Con l Z consts_1 (⟨"com/example/lorac/lorac/OperationNamedPinLaw", "str", "([CI)Ljava/lang/String;"⟩ : MethodName) method_5_code 2 (some (.object "java/lang/String")) cw ({ frames := 4, cells := 3, slots := 6, locals := 66 } : Room) #[(.ref b), (.int 1)] h0 (fun v h => Keep h0 h [] ∧ ∃ x t, v = some (.ref x) ∧ Own.Str Z h x t ([c0] : List Int32) ∧ h0.size ≤ x) := by
  have hw := H.1
  have hW := fun (i : Nat) (w : Jvm.Cond) (e : tables_1[i]? = some w) => hw w (List.mem_of_getElem? e)
  have hCm := H.2.1
  have hSi := H.2.2.1
  have hEL := H.2.2.2
  have hWs : ∀ d ∈ StrChars.Road.words, d.before a0 Z = true := fun d hd => hw d (own_wbackV d hd)
  have hWc : ∀ d ∈ StrChars.Road.wordsChN, d.before a0 Z = true := fun d hd => hw d (own_wchN d hd)
  have hWe : ∀ d ∈ StrChars.Road.wordsEq, d.before a0 Z = true := fun d hd => hw d (own_weqW d hd)
  have hSA : ∀ d ∈ Bundle.stringAtoms, d.before a0 Z = true := fun d hd => hw d (own_wSA d hd)
  refine Own.Con.of own_pn453927 hEL O0 ?_
  intro p e s m below meth c T0 G vm0 hx hby hml hret hnm hG hR S0
  have hz : ∀ L : Array Slot, L.size = 2 → L.size = c.maxLocals := fun L q => q.trans hml.symm
  rw [own_ef_own_str1]
  show G T0 (mkF m 0 #[rv b, iv 1] [])
  refine hG.st (fun t q => XS.iloadN S0.here hx rfl (hb hby own_dmethod_5_code_0) rfl (XS.ifYes S0.here hx rfl (pc0 := 1) (pc' := 15) rfl (hb hby own_dmethod_5_code_1) rfl ((if0 _ _).trans (feq (by decide : ¬ ((1 : Int32) = (0 : Int32)))).2) (by decide) (by decide) (XS.iloadN S0.here hx rfl (hb hby own_dmethod_5_code_15) rfl (XS.iconst S0.here hx rfl (hb hby own_dmethod_5_code_16) (XS.icmpNo S0.here hx rfl (hb hby own_dmethod_5_code_17) rfl (teq (by decide : (1 : Int32) = (1 : Int32))).2 q))))) ?_
  show G T0 (mkF m 20 #[rv b, iv 1] [])
  refine Own.Sit.newO hG S0 hx (hW 12 _ rfl) (hW 13 _ rfl) (hW 14 _ rfl) rfl (hb hby own_dmethod_5_code_20) (by decide) (by decide) (fun T58 h58 x58 g_x58 S58 J58 Sf58 E58 D58 => ?_)
  have lt_x58 := E58.lt
  have ga_x58 : Z.heap.size ≤ x58 := Nat.le_trans S0.le (Nat.le_of_eq g_x58.symm)
  have F59 : Fld Z h58 x58 "java/lang/String" "coder" "B" (.int 0) := D58 (Or.inr (hW 38 _ rfl)) (ty := .byte) (by decide)
  have F60 : Fld Z h58 x58 "java/lang/String" "value" "[B" .null := D58 (Or.inr (hW 40 _ rfl)) (ty := (.array .byte)) (by decide)
  show G T58 (mkF m 23 #[rv b, iv 1] [(.ref x58)])
  refine hG.st (fun t q => XS.dup S58.here hx rfl (hb hby own_dmethod_5_code_23) rfl rfl (XS.iconst S58.here hx rfl (hb hby own_dmethod_5_code_24) q)) ?_
  show G T58 (mkF m 25 #[rv b, iv 1] [(.int 1), (.ref x58), (.ref x58)])
  refine Own.Sit.newP hG S58 hx (aty := .char) (hW 0 _ rfl) rfl (hb hby own_dmethod_5_code_25) rfl (by decide) (cap := 1) (by decide) (by decide) (by decide) (by decide) (fun T61 h61 x61 k61 g_x61 S61 J61 Sf61 (V61 : Arv Z h61 x61 k61 .char (1 : Int32) [(.int 0)] (.int 0)) => ?_)
  have lt_x61 := V61.lt
  have ga_x61 : Z.heap.size ≤ x61 := Nat.le_trans S58.le (Nat.le_of_eq g_x61.symm)
  show G T61 (mkF m 27 #[rv b, iv 1] [(.ref x61), (.ref x58), (.ref x58)])
  refine hG.st (fun t q => XS.dup S61.here hx rfl (hb hby own_dmethod_5_code_27) rfl rfl (XS.iconst S61.here hx rfl (hb hby own_dmethod_5_code_28) (XS.aloadN S61.here hx rfl (hb hby own_dmethod_5_code_29) rfl rfl (XS.iconst S61.here hx rfl (hb hby own_dmethod_5_code_30) q)))) ?_
  show G T61 (mkF m 31 #[rv b, iv 1] [(.int 0), (.ref b), (.int 0), (.ref x61), (.ref x61), (.ref x58), (.ref x58)])
  have J62 : Own.Stp Z consts_1 vm0 h0 vm0 h61 [] := Own.Stp.trans J58 J61 (all0) all0
  have V63 := J62.arv A_b nin0
  refine Own.Sit.caload hG S61 hx V63 ⟨by decide, by decide⟩ rfl rfl rfl (hb hby own_dmethod_5_code_31) ?_
  show G T61 (mkF m 32 #[rv b, iv 1] [(.int c0), (.int 0), (.ref x61), (.ref x61), (.ref x58), (.ref x58)])
  refine Own.Sit.stC hG S61 hx V61 ga_x61 ⟨by decide, by decide⟩ 0 rfl (Nat.le_of_ble_eq_true rfl) rfl rfl (hb hby own_dmethod_5_code_32) (fun T64 h64 S64 J64 (V64 : Arv Z h64 x61 k61 .char (1 : Int32) [(.int (nar .char c0))] (.int 0)) => ?_)
  rw [own_nar r_c0] at V64
  show G T64 (mkF m 33 #[rv b, iv 1] [(.ref x61), (.ref x58), (.ref x58)])
  have J65 : Own.Stp Z consts_1 vm0 h58 vm0 h64 [] := Own.Stp.trans J61 J64 (all0) (allS (Or.inr (Nat.le_of_eq g_x61.symm)) all0)
  have E66 := J65.exa E58
  have F67 := J65.fld F60 nin0
  have F68 := J65.fld F59 nin0
  have Sf69 := J65.safe lt_x58 Sf58
  have hp70 : ∀ c ∈ ([c0] : List Int32), ¬ c < 0 ∧ ¬ (255 : Int32) < c := by
    intro c hc
    simp only [List.mem_cons, List.not_mem_nil, or_false] at hc
    rcases hc with rfl
    · exact r_c0
  refine Own.Sit.newStr hG S64 hx hWs hCm (hW 13 _ rfl) (hW 15 _ rfl) (hW 16 _ rfl) (cs := ([c0] : List Int32)) ga_x58 Sf69 E66 F67 F68 V64 rfl (Nat.le_of_ble_eq_true rfl) (Nat.le_of_ble_eq_true rfl) hp70 (nn := 1) (Nat.le_of_ble_eq_true rfl) rfl (hz _ rfl) (rest := [(.ref x58)]) rfl (W := 1) (by show 2 * 0 + _ ≤ _; exact Nat.le_of_eq rfl) (hb hby own_dmethod_5_code_33) (by decide) (by decide) (by decide) (by decide) (fun T71 h71 y71 S71 J71 u71 St71 => ?_)
  show G T71 (mkF m 36 #[rv b, iv 1] [(.ref x58)])
  have J72 : Own.Stp Z consts_1 vm0 h0 vm0 h64 [] := Own.Stp.trans J62 J64 (all0) (allS (Or.inr (Nat.le_trans J58.1.1 (Nat.le_of_eq g_x61.symm))) all0)
  have J73 : Own.Stp Z consts_1 vm0 h0 vm0 h71 [] := Own.Stp.trans J72 J71 (all0) (allS (Or.inr (Nat.le_of_eq g_x58.symm)) all0)
  exact Own.Sit.retO hR S71 hx hret rfl (Or.inr (Or.inr (Or.inr (Or.inr ⟨rfl, rfl, rfl⟩)))) (hb hby own_dmethod_5_code_36) (by decide) (by decide) ⟨J73.1, x58, _, rfl, St71, (Nat.le_of_eq g_x58.symm)⟩
theorem own_dmethod_5_code_37 : decode method_5_code 37 = .ok (.iload_n 1, 1) := by decide +kernel
theorem own_dmethod_5_code_38 : decode method_5_code 38 = .ok (.iconst 2, 1) := by decide +kernel
theorem own_dmethod_5_code_39 : decode method_5_code 39 = .ok (.if_icmp .ne 26, 3) := by decide +kernel
theorem own_dmethod_5_code_42 : decode method_5_code 42 = .ok (.new 39, 3) := by decide +kernel
theorem own_dmethod_5_code_45 : decode method_5_code 45 = .ok (.dup, 1) := by decide +kernel
theorem own_dmethod_5_code_46 : decode method_5_code 46 = .ok (.iconst 2, 1) := by decide +kernel
theorem own_dmethod_5_code_47 : decode method_5_code 47 = .ok (.newarray .char, 2) := by decide +kernel
theorem own_dmethod_5_code_49 : decode method_5_code 49 = .ok (.dup, 1) := by decide +kernel
theorem own_dmethod_5_code_50 : decode method_5_code 50 = .ok (.iconst 0, 1) := by decide +kernel
theorem own_dmethod_5_code_51 : decode method_5_code 51 = .ok (.aload_n 0, 1) := by decide +kernel
theorem own_dmethod_5_code_52 : decode method_5_code 52 = .ok (.iconst 0, 1) := by decide +kernel
theorem own_dmethod_5_code_53 : decode method_5_code 53 = .ok (.caload, 1) := by decide +kernel
theorem own_dmethod_5_code_54 : decode method_5_code 54 = .ok (.castore, 1) := by decide +kernel
theorem own_dmethod_5_code_55 : decode method_5_code 55 = .ok (.dup, 1) := by decide +kernel
theorem own_dmethod_5_code_56 : decode method_5_code 56 = .ok (.iconst 1, 1) := by decide +kernel
theorem own_dmethod_5_code_57 : decode method_5_code 57 = .ok (.aload_n 0, 1) := by decide +kernel
theorem own_dmethod_5_code_58 : decode method_5_code 58 = .ok (.iconst 1, 1) := by decide +kernel
theorem own_dmethod_5_code_59 : decode method_5_code 59 = .ok (.caload, 1) := by decide +kernel
theorem own_dmethod_5_code_60 : decode method_5_code 60 = .ok (.castore, 1) := by decide +kernel
theorem own_dmethod_5_code_61 : decode method_5_code 61 = .ok (.invokespecial 50, 3) := by decide +kernel
theorem own_dmethod_5_code_64 : decode method_5_code 64 = .ok (.areturn, 1) := by decide +kernel
theorem own_ef_own_str2 (m : MethodId) (b : Addr) : entryFrame m #[(.ref b), (.int 2)] 2 = mkF m 0 #[rv b, iv 2] [] := by first | (simp [entryFrame, mkF, argsToLocals, Value.category]; done) | rfl
set_option maxRecDepth 65536 in
set_option maxHeartbeats 40000000 in
theorem own_str2 (l : Launch) (Z : State) (a0 : Array Value) (H : own_Wld Z a0) {cw : List Jvm.Cond} (b : Addr) (c0 : Int32) (c1 : Int32) (c2 : Int32) (c3 : Int32) (c4 : Int32) (c5 : Int32) (c6 : Int32) (c7 : Int32) (h0 : Heap) (O0 : Ext Z.heap h0) {kb : ClassId} {dv : Value} (A_b : Arv Z h0 b kb .char (8 : Int32) [(.int c0), (.int c1), (.int c2), (.int c3), (.int c4), (.int c5), (.int c6), (.int c7)] dv) (r_c0 : ¬ c0 < 0 ∧ ¬ (255 : Int32) < c0) (r_c1 : ¬ c1 < 0 ∧ ¬ (255 : Int32) < c1) (r_c2 : ¬ c2 < 0 ∧ ¬ (255 : Int32) < c2) (r_c3 : ¬ c3 < 0 ∧ ¬ (255 : Int32) < c3) (r_c4 : ¬ c4 < 0 ∧ ¬ (255 : Int32) < c4) (r_c5 : ¬ c5 < 0 ∧ ¬ (255 : Int32) < c5) (r_c6 : ¬ c6 < 0 ∧ ¬ (255 : Int32) < c6) (r_c7 : ¬ c7 < 0 ∧ ¬ (255 : Int32) < c7) :
    Own.Con l Z consts_1 (⟨"com/example/lorac/lorac/OperationNamedPinLaw", "str", "([CI)Ljava/lang/String;"⟩ : MethodName) method_5_code 2 (some (.object "java/lang/String")) cw ({ frames := 4, cells := 3, slots := 8, locals := 66 } : Room) #[(.ref b), (.int 2)] h0 (fun v h => Keep h0 h [] ∧ ∃ x t, v = some (.ref x) ∧ Own.Str Z h x t ([c0, c1] : List Int32) ∧ h0.size ≤ x) := by
  have hw := H.1
  have hW := fun (i : Nat) (w : Jvm.Cond) (e : tables_1[i]? = some w) => hw w (List.mem_of_getElem? e)
  have hCm := H.2.1
  have hSi := H.2.2.1
  have hEL := H.2.2.2
  have hWs : ∀ d ∈ StrChars.Road.words, d.before a0 Z = true := fun d hd => hw d (own_wbackV d hd)
  have hWc : ∀ d ∈ StrChars.Road.wordsChN, d.before a0 Z = true := fun d hd => hw d (own_wchN d hd)
  have hWe : ∀ d ∈ StrChars.Road.wordsEq, d.before a0 Z = true := fun d hd => hw d (own_weqW d hd)
  have hSA : ∀ d ∈ Bundle.stringAtoms, d.before a0 Z = true := fun d hd => hw d (own_wSA d hd)
  refine Own.Con.of own_pn453927 hEL O0 ?_
  intro p e s m below meth c T0 G vm0 hx hby hml hret hnm hG hR S0
  have hz : ∀ L : Array Slot, L.size = 2 → L.size = c.maxLocals := fun L q => q.trans hml.symm
  rw [own_ef_own_str2]
  show G T0 (mkF m 0 #[rv b, iv 2] [])
  refine hG.st (fun t q => XS.iloadN S0.here hx rfl (hb hby own_dmethod_5_code_0) rfl (XS.ifYes S0.here hx rfl (pc0 := 1) (pc' := 15) rfl (hb hby own_dmethod_5_code_1) rfl ((if0 _ _).trans (feq (by decide : ¬ ((2 : Int32) = (0 : Int32)))).2) (by decide) (by decide) (XS.iloadN S0.here hx rfl (hb hby own_dmethod_5_code_15) rfl (XS.iconst S0.here hx rfl (hb hby own_dmethod_5_code_16) (XS.icmpYes S0.here hx rfl (pc0 := 17) (pc' := 37) rfl (hb hby own_dmethod_5_code_17) rfl (feq (by decide : ¬ ((2 : Int32) = (1 : Int32)))).2 (by decide) (by decide) (XS.iloadN S0.here hx rfl (hb hby own_dmethod_5_code_37) rfl q)))))) ?_
  show G T0 (mkF m 38 #[rv b, iv 2] [(.int 2)])
  refine hG.st (fun t q => XS.iconst S0.here hx rfl (hb hby own_dmethod_5_code_38) (XS.icmpNo S0.here hx rfl (hb hby own_dmethod_5_code_39) rfl (teq (by decide : (2 : Int32) = (2 : Int32))).2 q)) ?_
  show G T0 (mkF m 42 #[rv b, iv 2] [])
  refine Own.Sit.newO hG S0 hx (hW 12 _ rfl) (hW 13 _ rfl) (hW 14 _ rfl) rfl (hb hby own_dmethod_5_code_42) (by decide) (by decide) (fun T74 h74 x74 g_x74 S74 J74 Sf74 E74 D74 => ?_)
  have lt_x74 := E74.lt
  have ga_x74 : Z.heap.size ≤ x74 := Nat.le_trans S0.le (Nat.le_of_eq g_x74.symm)
  have F75 : Fld Z h74 x74 "java/lang/String" "coder" "B" (.int 0) := D74 (Or.inr (hW 38 _ rfl)) (ty := .byte) (by decide)
  have F76 : Fld Z h74 x74 "java/lang/String" "value" "[B" .null := D74 (Or.inr (hW 40 _ rfl)) (ty := (.array .byte)) (by decide)
  show G T74 (mkF m 45 #[rv b, iv 2] [(.ref x74)])
  refine hG.st (fun t q => XS.dup S74.here hx rfl (hb hby own_dmethod_5_code_45) rfl rfl (XS.iconst S74.here hx rfl (hb hby own_dmethod_5_code_46) q)) ?_
  show G T74 (mkF m 47 #[rv b, iv 2] [(.int 2), (.ref x74), (.ref x74)])
  refine Own.Sit.newP hG S74 hx (aty := .char) (hW 0 _ rfl) rfl (hb hby own_dmethod_5_code_47) rfl (by decide) (cap := 2) (by decide) (by decide) (by decide) (by decide) (fun T77 h77 x77 k77 g_x77 S77 J77 Sf77 (V77 : Arv Z h77 x77 k77 .char (2 : Int32) [(.int 0), (.int 0)] (.int 0)) => ?_)
  have lt_x77 := V77.lt
  have ga_x77 : Z.heap.size ≤ x77 := Nat.le_trans S74.le (Nat.le_of_eq g_x77.symm)
  show G T77 (mkF m 49 #[rv b, iv 2] [(.ref x77), (.ref x74), (.ref x74)])
  refine hG.st (fun t q => XS.dup S77.here hx rfl (hb hby own_dmethod_5_code_49) rfl rfl (XS.iconst S77.here hx rfl (hb hby own_dmethod_5_code_50) (XS.aloadN S77.here hx rfl (hb hby own_dmethod_5_code_51) rfl rfl (XS.iconst S77.here hx rfl (hb hby own_dmethod_5_code_52) q)))) ?_
  show G T77 (mkF m 53 #[rv b, iv 2] [(.int 0), (.ref b), (.int 0), (.ref x77), (.ref x77), (.ref x74), (.ref x74)])
  have J78 : Own.Stp Z consts_1 vm0 h0 vm0 h77 [] := Own.Stp.trans J74 J77 (all0) all0
  have V79 := J78.arv A_b nin0
  refine Own.Sit.caload hG S77 hx V79 ⟨by decide, by decide⟩ rfl rfl rfl (hb hby own_dmethod_5_code_53) ?_
  show G T77 (mkF m 54 #[rv b, iv 2] [(.int c0), (.int 0), (.ref x77), (.ref x77), (.ref x74), (.ref x74)])
  refine Own.Sit.stC hG S77 hx V77 ga_x77 ⟨by decide, by decide⟩ 0 rfl (Nat.le_of_ble_eq_true rfl) rfl rfl (hb hby own_dmethod_5_code_54) (fun T80 h80 S80 J80 (V80 : Arv Z h80 x77 k77 .char (2 : Int32) [(.int (nar .char c0)), (.int 0)] (.int 0)) => ?_)
  rw [own_nar r_c0] at V80
  show G T80 (mkF m 55 #[rv b, iv 2] [(.ref x77), (.ref x74), (.ref x74)])
  refine hG.st (fun t q => XS.dup S80.here hx rfl (hb hby own_dmethod_5_code_55) rfl rfl (XS.iconst S80.here hx rfl (hb hby own_dmethod_5_code_56) (XS.aloadN S80.here hx rfl (hb hby own_dmethod_5_code_57) rfl rfl (XS.iconst S80.here hx rfl (hb hby own_dmethod_5_code_58) q)))) ?_
  show G T80 (mkF m 59 #[rv b, iv 2] [(.int 1), (.ref b), (.int 1), (.ref x77), (.ref x77), (.ref x74), (.ref x74)])
  have V81 := J80.arv V79 (ninS (Nat.ne_of_lt (Nat.lt_of_lt_of_le (Nat.lt_of_lt_of_le A_b.lt J74.1.1) (Nat.le_of_eq g_x77.symm))) nin0)
  refine Own.Sit.caload hG S80 hx V81 ⟨by decide, by decide⟩ rfl rfl rfl (hb hby own_dmethod_5_code_59) ?_
  show G T80 (mkF m 60 #[rv b, iv 2] [(.int c1), (.int 1), (.ref x77), (.ref x77), (.ref x74), (.ref x74)])
  refine Own.Sit.stC hG S80 hx V80 ga_x77 ⟨by decide, by decide⟩ 1 rfl (Nat.le_of_ble_eq_true rfl) rfl rfl (hb hby own_dmethod_5_code_60) (fun T82 h82 S82 J82 (V82 : Arv Z h82 x77 k77 .char (2 : Int32) [(.int c0), (.int (nar .char c1))] (.int 0)) => ?_)
  rw [own_nar r_c1] at V82
  show G T82 (mkF m 61 #[rv b, iv 2] [(.ref x77), (.ref x74), (.ref x74)])
  have J83 : Own.Stp Z consts_1 vm0 h74 vm0 h80 [] := Own.Stp.trans J77 J80 (all0) (allS (Or.inr (Nat.le_of_eq g_x77.symm)) all0)
  have J84 : Own.Stp Z consts_1 vm0 h74 vm0 h82 [] := Own.Stp.trans J83 J82 (all0) (allS (Or.inr (Nat.le_of_eq g_x77.symm)) all0)
  have E85 := J84.exa E74
  have F86 := J84.fld F76 nin0
  have F87 := J84.fld F75 nin0
  have Sf88 := J84.safe lt_x74 Sf74
  have hp89 : ∀ c ∈ ([c0, c1] : List Int32), ¬ c < 0 ∧ ¬ (255 : Int32) < c := by
    intro c hc
    simp only [List.mem_cons, List.not_mem_nil, or_false] at hc
    rcases hc with rfl | rfl
    · exact r_c0
    · exact r_c1
  refine Own.Sit.newStr hG S82 hx hWs hCm (hW 13 _ rfl) (hW 15 _ rfl) (hW 16 _ rfl) (cs := ([c0, c1] : List Int32)) ga_x74 Sf88 E85 F86 F87 V82 rfl (Nat.le_of_ble_eq_true rfl) (Nat.le_of_ble_eq_true rfl) hp89 (nn := 2) (Nat.le_of_ble_eq_true rfl) rfl (hz _ rfl) (rest := [(.ref x74)]) rfl (W := 1) (by show 2 * 0 + _ ≤ _; exact Nat.le_of_eq rfl) (hb hby own_dmethod_5_code_61) (by decide) (by decide) (by decide) (by decide) (fun T90 h90 y90 S90 J90 u90 St90 => ?_)
  show G T90 (mkF m 64 #[rv b, iv 2] [(.ref x74)])
  have J91 : Own.Stp Z consts_1 vm0 h0 vm0 h80 [] := Own.Stp.trans J78 J80 (all0) (allS (Or.inr (Nat.le_trans J74.1.1 (Nat.le_of_eq g_x77.symm))) all0)
  have J92 : Own.Stp Z consts_1 vm0 h0 vm0 h82 [] := Own.Stp.trans J91 J82 (all0) (allS (Or.inr (Nat.le_trans J74.1.1 (Nat.le_of_eq g_x77.symm))) all0)
  have J93 : Own.Stp Z consts_1 vm0 h0 vm0 h90 [] := Own.Stp.trans J92 J90 (all0) (allS (Or.inr (Nat.le_of_eq g_x74.symm)) all0)
  exact Own.Sit.retO hR S90 hx hret rfl (Or.inr (Or.inr (Or.inr (Or.inr ⟨rfl, rfl, rfl⟩)))) (hb hby own_dmethod_5_code_64) (by decide) (by decide) ⟨J93.1, x74, _, rfl, St90, (Nat.le_of_eq g_x74.symm)⟩
theorem own_dmethod_5_code_65 : decode method_5_code 65 = .ok (.iload_n 1, 1) := by decide +kernel
theorem own_dmethod_5_code_66 : decode method_5_code 66 = .ok (.iconst 3, 1) := by decide +kernel
theorem own_dmethod_5_code_67 : decode method_5_code 67 = .ok (.if_icmp .ne 32, 3) := by decide +kernel
theorem own_dmethod_5_code_70 : decode method_5_code 70 = .ok (.new 39, 3) := by decide +kernel
theorem own_dmethod_5_code_73 : decode method_5_code 73 = .ok (.dup, 1) := by decide +kernel
theorem own_dmethod_5_code_74 : decode method_5_code 74 = .ok (.iconst 3, 1) := by decide +kernel
theorem own_dmethod_5_code_75 : decode method_5_code 75 = .ok (.newarray .char, 2) := by decide +kernel
theorem own_dmethod_5_code_77 : decode method_5_code 77 = .ok (.dup, 1) := by decide +kernel
theorem own_dmethod_5_code_78 : decode method_5_code 78 = .ok (.iconst 0, 1) := by decide +kernel
theorem own_dmethod_5_code_79 : decode method_5_code 79 = .ok (.aload_n 0, 1) := by decide +kernel
theorem own_dmethod_5_code_80 : decode method_5_code 80 = .ok (.iconst 0, 1) := by decide +kernel
theorem own_dmethod_5_code_81 : decode method_5_code 81 = .ok (.caload, 1) := by decide +kernel
theorem own_dmethod_5_code_82 : decode method_5_code 82 = .ok (.castore, 1) := by decide +kernel
theorem own_dmethod_5_code_83 : decode method_5_code 83 = .ok (.dup, 1) := by decide +kernel
theorem own_dmethod_5_code_84 : decode method_5_code 84 = .ok (.iconst 1, 1) := by decide +kernel
theorem own_dmethod_5_code_85 : decode method_5_code 85 = .ok (.aload_n 0, 1) := by decide +kernel
theorem own_dmethod_5_code_86 : decode method_5_code 86 = .ok (.iconst 1, 1) := by decide +kernel
theorem own_dmethod_5_code_87 : decode method_5_code 87 = .ok (.caload, 1) := by decide +kernel
theorem own_dmethod_5_code_88 : decode method_5_code 88 = .ok (.castore, 1) := by decide +kernel
theorem own_dmethod_5_code_89 : decode method_5_code 89 = .ok (.dup, 1) := by decide +kernel
theorem own_dmethod_5_code_90 : decode method_5_code 90 = .ok (.iconst 2, 1) := by decide +kernel
theorem own_dmethod_5_code_91 : decode method_5_code 91 = .ok (.aload_n 0, 1) := by decide +kernel
theorem own_dmethod_5_code_92 : decode method_5_code 92 = .ok (.iconst 2, 1) := by decide +kernel
theorem own_dmethod_5_code_93 : decode method_5_code 93 = .ok (.caload, 1) := by decide +kernel
theorem own_dmethod_5_code_94 : decode method_5_code 94 = .ok (.castore, 1) := by decide +kernel
theorem own_dmethod_5_code_95 : decode method_5_code 95 = .ok (.invokespecial 50, 3) := by decide +kernel
theorem own_dmethod_5_code_98 : decode method_5_code 98 = .ok (.areturn, 1) := by decide +kernel
theorem own_ef_own_str3 (m : MethodId) (b : Addr) : entryFrame m #[(.ref b), (.int 3)] 2 = mkF m 0 #[rv b, iv 3] [] := by first | (simp [entryFrame, mkF, argsToLocals, Value.category]; done) | rfl
set_option maxRecDepth 65536 in
set_option maxHeartbeats 40000000 in
theorem own_str3 (l : Launch) (Z : State) (a0 : Array Value) (H : own_Wld Z a0) {cw : List Jvm.Cond} (b : Addr) (c0 : Int32) (c1 : Int32) (c2 : Int32) (c3 : Int32) (c4 : Int32) (c5 : Int32) (c6 : Int32) (c7 : Int32) (h0 : Heap) (O0 : Ext Z.heap h0) {kb : ClassId} {dv : Value} (A_b : Arv Z h0 b kb .char (8 : Int32) [(.int c0), (.int c1), (.int c2), (.int c3), (.int c4), (.int c5), (.int c6), (.int c7)] dv) (r_c0 : ¬ c0 < 0 ∧ ¬ (255 : Int32) < c0) (r_c1 : ¬ c1 < 0 ∧ ¬ (255 : Int32) < c1) (r_c2 : ¬ c2 < 0 ∧ ¬ (255 : Int32) < c2) (r_c3 : ¬ c3 < 0 ∧ ¬ (255 : Int32) < c3) (r_c4 : ¬ c4 < 0 ∧ ¬ (255 : Int32) < c4) (r_c5 : ¬ c5 < 0 ∧ ¬ (255 : Int32) < c5) (r_c6 : ¬ c6 < 0 ∧ ¬ (255 : Int32) < c6) (r_c7 : ¬ c7 < 0 ∧ ¬ (255 : Int32) < c7) :
    Own.Con l Z consts_1 (⟨"com/example/lorac/lorac/OperationNamedPinLaw", "str", "([CI)Ljava/lang/String;"⟩ : MethodName) method_5_code 2 (some (.object "java/lang/String")) cw ({ frames := 4, cells := 3, slots := 10, locals := 66 } : Room) #[(.ref b), (.int 3)] h0 (fun v h => Keep h0 h [] ∧ ∃ x t, v = some (.ref x) ∧ Own.Str Z h x t ([c0, c1, c2] : List Int32) ∧ h0.size ≤ x) := by
  have hw := H.1
  have hW := fun (i : Nat) (w : Jvm.Cond) (e : tables_1[i]? = some w) => hw w (List.mem_of_getElem? e)
  have hCm := H.2.1
  have hSi := H.2.2.1
  have hEL := H.2.2.2
  have hWs : ∀ d ∈ StrChars.Road.words, d.before a0 Z = true := fun d hd => hw d (own_wbackV d hd)
  have hWc : ∀ d ∈ StrChars.Road.wordsChN, d.before a0 Z = true := fun d hd => hw d (own_wchN d hd)
  have hWe : ∀ d ∈ StrChars.Road.wordsEq, d.before a0 Z = true := fun d hd => hw d (own_weqW d hd)
  have hSA : ∀ d ∈ Bundle.stringAtoms, d.before a0 Z = true := fun d hd => hw d (own_wSA d hd)
  refine Own.Con.of own_pn453927 hEL O0 ?_
  intro p e s m below meth c T0 G vm0 hx hby hml hret hnm hG hR S0
  have hz : ∀ L : Array Slot, L.size = 2 → L.size = c.maxLocals := fun L q => q.trans hml.symm
  rw [own_ef_own_str3]
  show G T0 (mkF m 0 #[rv b, iv 3] [])
  refine hG.st (fun t q => XS.iloadN S0.here hx rfl (hb hby own_dmethod_5_code_0) rfl (XS.ifYes S0.here hx rfl (pc0 := 1) (pc' := 15) rfl (hb hby own_dmethod_5_code_1) rfl ((if0 _ _).trans (feq (by decide : ¬ ((3 : Int32) = (0 : Int32)))).2) (by decide) (by decide) (XS.iloadN S0.here hx rfl (hb hby own_dmethod_5_code_15) rfl (XS.iconst S0.here hx rfl (hb hby own_dmethod_5_code_16) (XS.icmpYes S0.here hx rfl (pc0 := 17) (pc' := 37) rfl (hb hby own_dmethod_5_code_17) rfl (feq (by decide : ¬ ((3 : Int32) = (1 : Int32)))).2 (by decide) (by decide) (XS.iloadN S0.here hx rfl (hb hby own_dmethod_5_code_37) rfl q)))))) ?_
  show G T0 (mkF m 38 #[rv b, iv 3] [(.int 3)])
  refine hG.st (fun t q => XS.iconst S0.here hx rfl (hb hby own_dmethod_5_code_38) (XS.icmpYes S0.here hx rfl (pc0 := 39) (pc' := 65) rfl (hb hby own_dmethod_5_code_39) rfl (feq (by decide : ¬ ((3 : Int32) = (2 : Int32)))).2 (by decide) (by decide) (XS.iloadN S0.here hx rfl (hb hby own_dmethod_5_code_65) rfl (XS.iconst S0.here hx rfl (hb hby own_dmethod_5_code_66) (XS.icmpNo S0.here hx rfl (hb hby own_dmethod_5_code_67) rfl (teq (by decide : (3 : Int32) = (3 : Int32))).2 q))))) ?_
  show G T0 (mkF m 70 #[rv b, iv 3] [])
  refine Own.Sit.newO hG S0 hx (hW 12 _ rfl) (hW 13 _ rfl) (hW 14 _ rfl) rfl (hb hby own_dmethod_5_code_70) (by decide) (by decide) (fun T94 h94 x94 g_x94 S94 J94 Sf94 E94 D94 => ?_)
  have lt_x94 := E94.lt
  have ga_x94 : Z.heap.size ≤ x94 := Nat.le_trans S0.le (Nat.le_of_eq g_x94.symm)
  have F95 : Fld Z h94 x94 "java/lang/String" "coder" "B" (.int 0) := D94 (Or.inr (hW 38 _ rfl)) (ty := .byte) (by decide)
  have F96 : Fld Z h94 x94 "java/lang/String" "value" "[B" .null := D94 (Or.inr (hW 40 _ rfl)) (ty := (.array .byte)) (by decide)
  show G T94 (mkF m 73 #[rv b, iv 3] [(.ref x94)])
  refine hG.st (fun t q => XS.dup S94.here hx rfl (hb hby own_dmethod_5_code_73) rfl rfl (XS.iconst S94.here hx rfl (hb hby own_dmethod_5_code_74) q)) ?_
  show G T94 (mkF m 75 #[rv b, iv 3] [(.int 3), (.ref x94), (.ref x94)])
  refine Own.Sit.newP hG S94 hx (aty := .char) (hW 0 _ rfl) rfl (hb hby own_dmethod_5_code_75) rfl (by decide) (cap := 3) (by decide) (by decide) (by decide) (by decide) (fun T97 h97 x97 k97 g_x97 S97 J97 Sf97 (V97 : Arv Z h97 x97 k97 .char (3 : Int32) [(.int 0), (.int 0), (.int 0)] (.int 0)) => ?_)
  have lt_x97 := V97.lt
  have ga_x97 : Z.heap.size ≤ x97 := Nat.le_trans S94.le (Nat.le_of_eq g_x97.symm)
  show G T97 (mkF m 77 #[rv b, iv 3] [(.ref x97), (.ref x94), (.ref x94)])
  refine hG.st (fun t q => XS.dup S97.here hx rfl (hb hby own_dmethod_5_code_77) rfl rfl (XS.iconst S97.here hx rfl (hb hby own_dmethod_5_code_78) (XS.aloadN S97.here hx rfl (hb hby own_dmethod_5_code_79) rfl rfl (XS.iconst S97.here hx rfl (hb hby own_dmethod_5_code_80) q)))) ?_
  show G T97 (mkF m 81 #[rv b, iv 3] [(.int 0), (.ref b), (.int 0), (.ref x97), (.ref x97), (.ref x94), (.ref x94)])
  have J98 : Own.Stp Z consts_1 vm0 h0 vm0 h97 [] := Own.Stp.trans J94 J97 (all0) all0
  have V99 := J98.arv A_b nin0
  refine Own.Sit.caload hG S97 hx V99 ⟨by decide, by decide⟩ rfl rfl rfl (hb hby own_dmethod_5_code_81) ?_
  show G T97 (mkF m 82 #[rv b, iv 3] [(.int c0), (.int 0), (.ref x97), (.ref x97), (.ref x94), (.ref x94)])
  refine Own.Sit.stC hG S97 hx V97 ga_x97 ⟨by decide, by decide⟩ 0 rfl (Nat.le_of_ble_eq_true rfl) rfl rfl (hb hby own_dmethod_5_code_82) (fun T100 h100 S100 J100 (V100 : Arv Z h100 x97 k97 .char (3 : Int32) [(.int (nar .char c0)), (.int 0), (.int 0)] (.int 0)) => ?_)
  rw [own_nar r_c0] at V100
  show G T100 (mkF m 83 #[rv b, iv 3] [(.ref x97), (.ref x94), (.ref x94)])
  refine hG.st (fun t q => XS.dup S100.here hx rfl (hb hby own_dmethod_5_code_83) rfl rfl (XS.iconst S100.here hx rfl (hb hby own_dmethod_5_code_84) (XS.aloadN S100.here hx rfl (hb hby own_dmethod_5_code_85) rfl rfl (XS.iconst S100.here hx rfl (hb hby own_dmethod_5_code_86) q)))) ?_
  show G T100 (mkF m 87 #[rv b, iv 3] [(.int 1), (.ref b), (.int 1), (.ref x97), (.ref x97), (.ref x94), (.ref x94)])
  have V101 := J100.arv V99 (ninS (Nat.ne_of_lt (Nat.lt_of_lt_of_le (Nat.lt_of_lt_of_le A_b.lt J94.1.1) (Nat.le_of_eq g_x97.symm))) nin0)
  refine Own.Sit.caload hG S100 hx V101 ⟨by decide, by decide⟩ rfl rfl rfl (hb hby own_dmethod_5_code_87) ?_
  show G T100 (mkF m 88 #[rv b, iv 3] [(.int c1), (.int 1), (.ref x97), (.ref x97), (.ref x94), (.ref x94)])
  refine Own.Sit.stC hG S100 hx V100 ga_x97 ⟨by decide, by decide⟩ 1 rfl (Nat.le_of_ble_eq_true rfl) rfl rfl (hb hby own_dmethod_5_code_88) (fun T102 h102 S102 J102 (V102 : Arv Z h102 x97 k97 .char (3 : Int32) [(.int c0), (.int (nar .char c1)), (.int 0)] (.int 0)) => ?_)
  rw [own_nar r_c1] at V102
  show G T102 (mkF m 89 #[rv b, iv 3] [(.ref x97), (.ref x94), (.ref x94)])
  refine hG.st (fun t q => XS.dup S102.here hx rfl (hb hby own_dmethod_5_code_89) rfl rfl (XS.iconst S102.here hx rfl (hb hby own_dmethod_5_code_90) (XS.aloadN S102.here hx rfl (hb hby own_dmethod_5_code_91) rfl rfl (XS.iconst S102.here hx rfl (hb hby own_dmethod_5_code_92) q)))) ?_
  show G T102 (mkF m 93 #[rv b, iv 3] [(.int 2), (.ref b), (.int 2), (.ref x97), (.ref x97), (.ref x94), (.ref x94)])
  have V103 := J102.arv V101 (ninS (Nat.ne_of_lt (Nat.lt_of_lt_of_le (Nat.lt_of_lt_of_le A_b.lt J94.1.1) (Nat.le_of_eq g_x97.symm))) nin0)
  refine Own.Sit.caload hG S102 hx V103 ⟨by decide, by decide⟩ rfl rfl rfl (hb hby own_dmethod_5_code_93) ?_
  show G T102 (mkF m 94 #[rv b, iv 3] [(.int c2), (.int 2), (.ref x97), (.ref x97), (.ref x94), (.ref x94)])
  refine Own.Sit.stC hG S102 hx V102 ga_x97 ⟨by decide, by decide⟩ 2 rfl (Nat.le_of_ble_eq_true rfl) rfl rfl (hb hby own_dmethod_5_code_94) (fun T104 h104 S104 J104 (V104 : Arv Z h104 x97 k97 .char (3 : Int32) [(.int c0), (.int c1), (.int (nar .char c2))] (.int 0)) => ?_)
  rw [own_nar r_c2] at V104
  show G T104 (mkF m 95 #[rv b, iv 3] [(.ref x97), (.ref x94), (.ref x94)])
  have J105 : Own.Stp Z consts_1 vm0 h94 vm0 h100 [] := Own.Stp.trans J97 J100 (all0) (allS (Or.inr (Nat.le_of_eq g_x97.symm)) all0)
  have J106 : Own.Stp Z consts_1 vm0 h94 vm0 h102 [] := Own.Stp.trans J105 J102 (all0) (allS (Or.inr (Nat.le_of_eq g_x97.symm)) all0)
  have J107 : Own.Stp Z consts_1 vm0 h94 vm0 h104 [] := Own.Stp.trans J106 J104 (all0) (allS (Or.inr (Nat.le_of_eq g_x97.symm)) all0)
  have E108 := J107.exa E94
  have F109 := J107.fld F96 nin0
  have F110 := J107.fld F95 nin0
  have Sf111 := J107.safe lt_x94 Sf94
  have hp112 : ∀ c ∈ ([c0, c1, c2] : List Int32), ¬ c < 0 ∧ ¬ (255 : Int32) < c := by
    intro c hc
    simp only [List.mem_cons, List.not_mem_nil, or_false] at hc
    rcases hc with rfl | rfl | rfl
    · exact r_c0
    · exact r_c1
    · exact r_c2
  refine Own.Sit.newStr hG S104 hx hWs hCm (hW 13 _ rfl) (hW 15 _ rfl) (hW 16 _ rfl) (cs := ([c0, c1, c2] : List Int32)) ga_x94 Sf111 E108 F109 F110 V104 rfl (Nat.le_of_ble_eq_true rfl) (Nat.le_of_ble_eq_true rfl) hp112 (nn := 3) (Nat.le_of_ble_eq_true rfl) rfl (hz _ rfl) (rest := [(.ref x94)]) rfl (W := 1) (by show 2 * 0 + _ ≤ _; exact Nat.le_of_eq rfl) (hb hby own_dmethod_5_code_95) (by decide) (by decide) (by decide) (by decide) (fun T113 h113 y113 S113 J113 u113 St113 => ?_)
  show G T113 (mkF m 98 #[rv b, iv 3] [(.ref x94)])
  have J114 : Own.Stp Z consts_1 vm0 h0 vm0 h100 [] := Own.Stp.trans J98 J100 (all0) (allS (Or.inr (Nat.le_trans J94.1.1 (Nat.le_of_eq g_x97.symm))) all0)
  have J115 : Own.Stp Z consts_1 vm0 h0 vm0 h102 [] := Own.Stp.trans J114 J102 (all0) (allS (Or.inr (Nat.le_trans J94.1.1 (Nat.le_of_eq g_x97.symm))) all0)
  have J116 : Own.Stp Z consts_1 vm0 h0 vm0 h104 [] := Own.Stp.trans J115 J104 (all0) (allS (Or.inr (Nat.le_trans J94.1.1 (Nat.le_of_eq g_x97.symm))) all0)
  have J117 : Own.Stp Z consts_1 vm0 h0 vm0 h113 [] := Own.Stp.trans J116 J113 (all0) (allS (Or.inr (Nat.le_of_eq g_x94.symm)) all0)
  exact Own.Sit.retO hR S113 hx hret rfl (Or.inr (Or.inr (Or.inr (Or.inr ⟨rfl, rfl, rfl⟩)))) (hb hby own_dmethod_5_code_98) (by decide) (by decide) ⟨J117.1, x94, _, rfl, St113, (Nat.le_of_eq g_x94.symm)⟩
theorem own_dmethod_5_code_99 : decode method_5_code 99 = .ok (.iload_n 1, 1) := by decide +kernel
theorem own_dmethod_5_code_100 : decode method_5_code 100 = .ok (.iconst 4, 1) := by decide +kernel
theorem own_dmethod_5_code_101 : decode method_5_code 101 = .ok (.if_icmp .ne 38, 3) := by decide +kernel
theorem own_dmethod_5_code_104 : decode method_5_code 104 = .ok (.new 39, 3) := by decide +kernel
theorem own_dmethod_5_code_107 : decode method_5_code 107 = .ok (.dup, 1) := by decide +kernel
theorem own_dmethod_5_code_108 : decode method_5_code 108 = .ok (.iconst 4, 1) := by decide +kernel
theorem own_dmethod_5_code_109 : decode method_5_code 109 = .ok (.newarray .char, 2) := by decide +kernel
theorem own_dmethod_5_code_111 : decode method_5_code 111 = .ok (.dup, 1) := by decide +kernel
theorem own_dmethod_5_code_112 : decode method_5_code 112 = .ok (.iconst 0, 1) := by decide +kernel
theorem own_dmethod_5_code_113 : decode method_5_code 113 = .ok (.aload_n 0, 1) := by decide +kernel
theorem own_dmethod_5_code_114 : decode method_5_code 114 = .ok (.iconst 0, 1) := by decide +kernel
theorem own_dmethod_5_code_115 : decode method_5_code 115 = .ok (.caload, 1) := by decide +kernel
theorem own_dmethod_5_code_116 : decode method_5_code 116 = .ok (.castore, 1) := by decide +kernel
theorem own_dmethod_5_code_117 : decode method_5_code 117 = .ok (.dup, 1) := by decide +kernel
theorem own_dmethod_5_code_118 : decode method_5_code 118 = .ok (.iconst 1, 1) := by decide +kernel
theorem own_dmethod_5_code_119 : decode method_5_code 119 = .ok (.aload_n 0, 1) := by decide +kernel
theorem own_dmethod_5_code_120 : decode method_5_code 120 = .ok (.iconst 1, 1) := by decide +kernel
theorem own_dmethod_5_code_121 : decode method_5_code 121 = .ok (.caload, 1) := by decide +kernel
theorem own_dmethod_5_code_122 : decode method_5_code 122 = .ok (.castore, 1) := by decide +kernel
theorem own_dmethod_5_code_123 : decode method_5_code 123 = .ok (.dup, 1) := by decide +kernel
theorem own_dmethod_5_code_124 : decode method_5_code 124 = .ok (.iconst 2, 1) := by decide +kernel
theorem own_dmethod_5_code_125 : decode method_5_code 125 = .ok (.aload_n 0, 1) := by decide +kernel
theorem own_dmethod_5_code_126 : decode method_5_code 126 = .ok (.iconst 2, 1) := by decide +kernel
theorem own_dmethod_5_code_127 : decode method_5_code 127 = .ok (.caload, 1) := by decide +kernel
theorem own_dmethod_5_code_128 : decode method_5_code 128 = .ok (.castore, 1) := by decide +kernel
theorem own_dmethod_5_code_129 : decode method_5_code 129 = .ok (.dup, 1) := by decide +kernel
theorem own_dmethod_5_code_130 : decode method_5_code 130 = .ok (.iconst 3, 1) := by decide +kernel
theorem own_dmethod_5_code_131 : decode method_5_code 131 = .ok (.aload_n 0, 1) := by decide +kernel
theorem own_dmethod_5_code_132 : decode method_5_code 132 = .ok (.iconst 3, 1) := by decide +kernel
theorem own_dmethod_5_code_133 : decode method_5_code 133 = .ok (.caload, 1) := by decide +kernel
theorem own_dmethod_5_code_134 : decode method_5_code 134 = .ok (.castore, 1) := by decide +kernel
theorem own_dmethod_5_code_135 : decode method_5_code 135 = .ok (.invokespecial 50, 3) := by decide +kernel
theorem own_dmethod_5_code_138 : decode method_5_code 138 = .ok (.areturn, 1) := by decide +kernel
theorem own_ef_own_str4 (m : MethodId) (b : Addr) : entryFrame m #[(.ref b), (.int 4)] 2 = mkF m 0 #[rv b, iv 4] [] := by first | (simp [entryFrame, mkF, argsToLocals, Value.category]; done) | rfl
set_option maxRecDepth 65536 in
set_option maxHeartbeats 40000000 in
theorem own_str4 (l : Launch) (Z : State) (a0 : Array Value) (H : own_Wld Z a0) {cw : List Jvm.Cond} (b : Addr) (c0 : Int32) (c1 : Int32) (c2 : Int32) (c3 : Int32) (c4 : Int32) (c5 : Int32) (c6 : Int32) (c7 : Int32) (h0 : Heap) (O0 : Ext Z.heap h0) {kb : ClassId} {dv : Value} (A_b : Arv Z h0 b kb .char (8 : Int32) [(.int c0), (.int c1), (.int c2), (.int c3), (.int c4), (.int c5), (.int c6), (.int c7)] dv) (r_c0 : ¬ c0 < 0 ∧ ¬ (255 : Int32) < c0) (r_c1 : ¬ c1 < 0 ∧ ¬ (255 : Int32) < c1) (r_c2 : ¬ c2 < 0 ∧ ¬ (255 : Int32) < c2) (r_c3 : ¬ c3 < 0 ∧ ¬ (255 : Int32) < c3) (r_c4 : ¬ c4 < 0 ∧ ¬ (255 : Int32) < c4) (r_c5 : ¬ c5 < 0 ∧ ¬ (255 : Int32) < c5) (r_c6 : ¬ c6 < 0 ∧ ¬ (255 : Int32) < c6) (r_c7 : ¬ c7 < 0 ∧ ¬ (255 : Int32) < c7) :
    Own.Con l Z consts_1 (⟨"com/example/lorac/lorac/OperationNamedPinLaw", "str", "([CI)Ljava/lang/String;"⟩ : MethodName) method_5_code 2 (some (.object "java/lang/String")) cw ({ frames := 4, cells := 3, slots := 12, locals := 66 } : Room) #[(.ref b), (.int 4)] h0 (fun v h => Keep h0 h [] ∧ ∃ x t, v = some (.ref x) ∧ Own.Str Z h x t ([c0, c1, c2, c3] : List Int32) ∧ h0.size ≤ x) := by
  have hw := H.1
  have hW := fun (i : Nat) (w : Jvm.Cond) (e : tables_1[i]? = some w) => hw w (List.mem_of_getElem? e)
  have hCm := H.2.1
  have hSi := H.2.2.1
  have hEL := H.2.2.2
  have hWs : ∀ d ∈ StrChars.Road.words, d.before a0 Z = true := fun d hd => hw d (own_wbackV d hd)
  have hWc : ∀ d ∈ StrChars.Road.wordsChN, d.before a0 Z = true := fun d hd => hw d (own_wchN d hd)
  have hWe : ∀ d ∈ StrChars.Road.wordsEq, d.before a0 Z = true := fun d hd => hw d (own_weqW d hd)
  have hSA : ∀ d ∈ Bundle.stringAtoms, d.before a0 Z = true := fun d hd => hw d (own_wSA d hd)
  refine Own.Con.of own_pn453927 hEL O0 ?_
  intro p e s m below meth c T0 G vm0 hx hby hml hret hnm hG hR S0
  have hz : ∀ L : Array Slot, L.size = 2 → L.size = c.maxLocals := fun L q => q.trans hml.symm
  rw [own_ef_own_str4]
  show G T0 (mkF m 0 #[rv b, iv 4] [])
  refine hG.st (fun t q => XS.iloadN S0.here hx rfl (hb hby own_dmethod_5_code_0) rfl (XS.ifYes S0.here hx rfl (pc0 := 1) (pc' := 15) rfl (hb hby own_dmethod_5_code_1) rfl ((if0 _ _).trans (feq (by decide : ¬ ((4 : Int32) = (0 : Int32)))).2) (by decide) (by decide) (XS.iloadN S0.here hx rfl (hb hby own_dmethod_5_code_15) rfl (XS.iconst S0.here hx rfl (hb hby own_dmethod_5_code_16) (XS.icmpYes S0.here hx rfl (pc0 := 17) (pc' := 37) rfl (hb hby own_dmethod_5_code_17) rfl (feq (by decide : ¬ ((4 : Int32) = (1 : Int32)))).2 (by decide) (by decide) (XS.iloadN S0.here hx rfl (hb hby own_dmethod_5_code_37) rfl q)))))) ?_
  show G T0 (mkF m 38 #[rv b, iv 4] [(.int 4)])
  refine hG.st (fun t q => XS.iconst S0.here hx rfl (hb hby own_dmethod_5_code_38) (XS.icmpYes S0.here hx rfl (pc0 := 39) (pc' := 65) rfl (hb hby own_dmethod_5_code_39) rfl (feq (by decide : ¬ ((4 : Int32) = (2 : Int32)))).2 (by decide) (by decide) (XS.iloadN S0.here hx rfl (hb hby own_dmethod_5_code_65) rfl (XS.iconst S0.here hx rfl (hb hby own_dmethod_5_code_66) (XS.icmpYes S0.here hx rfl (pc0 := 67) (pc' := 99) rfl (hb hby own_dmethod_5_code_67) rfl (feq (by decide : ¬ ((4 : Int32) = (3 : Int32)))).2 (by decide) (by decide) (XS.iloadN S0.here hx rfl (hb hby own_dmethod_5_code_99) rfl q)))))) ?_
  show G T0 (mkF m 100 #[rv b, iv 4] [(.int 4)])
  refine hG.st (fun t q => XS.iconst S0.here hx rfl (hb hby own_dmethod_5_code_100) (XS.icmpNo S0.here hx rfl (hb hby own_dmethod_5_code_101) rfl (teq (by decide : (4 : Int32) = (4 : Int32))).2 q)) ?_
  show G T0 (mkF m 104 #[rv b, iv 4] [])
  refine Own.Sit.newO hG S0 hx (hW 12 _ rfl) (hW 13 _ rfl) (hW 14 _ rfl) rfl (hb hby own_dmethod_5_code_104) (by decide) (by decide) (fun T118 h118 x118 g_x118 S118 J118 Sf118 E118 D118 => ?_)
  have lt_x118 := E118.lt
  have ga_x118 : Z.heap.size ≤ x118 := Nat.le_trans S0.le (Nat.le_of_eq g_x118.symm)
  have F119 : Fld Z h118 x118 "java/lang/String" "coder" "B" (.int 0) := D118 (Or.inr (hW 38 _ rfl)) (ty := .byte) (by decide)
  have F120 : Fld Z h118 x118 "java/lang/String" "value" "[B" .null := D118 (Or.inr (hW 40 _ rfl)) (ty := (.array .byte)) (by decide)
  show G T118 (mkF m 107 #[rv b, iv 4] [(.ref x118)])
  refine hG.st (fun t q => XS.dup S118.here hx rfl (hb hby own_dmethod_5_code_107) rfl rfl (XS.iconst S118.here hx rfl (hb hby own_dmethod_5_code_108) q)) ?_
  show G T118 (mkF m 109 #[rv b, iv 4] [(.int 4), (.ref x118), (.ref x118)])
  refine Own.Sit.newP hG S118 hx (aty := .char) (hW 0 _ rfl) rfl (hb hby own_dmethod_5_code_109) rfl (by decide) (cap := 4) (by decide) (by decide) (by decide) (by decide) (fun T121 h121 x121 k121 g_x121 S121 J121 Sf121 (V121 : Arv Z h121 x121 k121 .char (4 : Int32) [(.int 0), (.int 0), (.int 0), (.int 0)] (.int 0)) => ?_)
  have lt_x121 := V121.lt
  have ga_x121 : Z.heap.size ≤ x121 := Nat.le_trans S118.le (Nat.le_of_eq g_x121.symm)
  show G T121 (mkF m 111 #[rv b, iv 4] [(.ref x121), (.ref x118), (.ref x118)])
  refine hG.st (fun t q => XS.dup S121.here hx rfl (hb hby own_dmethod_5_code_111) rfl rfl (XS.iconst S121.here hx rfl (hb hby own_dmethod_5_code_112) (XS.aloadN S121.here hx rfl (hb hby own_dmethod_5_code_113) rfl rfl (XS.iconst S121.here hx rfl (hb hby own_dmethod_5_code_114) q)))) ?_
  show G T121 (mkF m 115 #[rv b, iv 4] [(.int 0), (.ref b), (.int 0), (.ref x121), (.ref x121), (.ref x118), (.ref x118)])
  have J122 : Own.Stp Z consts_1 vm0 h0 vm0 h121 [] := Own.Stp.trans J118 J121 (all0) all0
  have V123 := J122.arv A_b nin0
  refine Own.Sit.caload hG S121 hx V123 ⟨by decide, by decide⟩ rfl rfl rfl (hb hby own_dmethod_5_code_115) ?_
  show G T121 (mkF m 116 #[rv b, iv 4] [(.int c0), (.int 0), (.ref x121), (.ref x121), (.ref x118), (.ref x118)])
  refine Own.Sit.stC hG S121 hx V121 ga_x121 ⟨by decide, by decide⟩ 0 rfl (Nat.le_of_ble_eq_true rfl) rfl rfl (hb hby own_dmethod_5_code_116) (fun T124 h124 S124 J124 (V124 : Arv Z h124 x121 k121 .char (4 : Int32) [(.int (nar .char c0)), (.int 0), (.int 0), (.int 0)] (.int 0)) => ?_)
  rw [own_nar r_c0] at V124
  show G T124 (mkF m 117 #[rv b, iv 4] [(.ref x121), (.ref x118), (.ref x118)])
  refine hG.st (fun t q => XS.dup S124.here hx rfl (hb hby own_dmethod_5_code_117) rfl rfl (XS.iconst S124.here hx rfl (hb hby own_dmethod_5_code_118) (XS.aloadN S124.here hx rfl (hb hby own_dmethod_5_code_119) rfl rfl (XS.iconst S124.here hx rfl (hb hby own_dmethod_5_code_120) q)))) ?_
  show G T124 (mkF m 121 #[rv b, iv 4] [(.int 1), (.ref b), (.int 1), (.ref x121), (.ref x121), (.ref x118), (.ref x118)])
  have V125 := J124.arv V123 (ninS (Nat.ne_of_lt (Nat.lt_of_lt_of_le (Nat.lt_of_lt_of_le A_b.lt J118.1.1) (Nat.le_of_eq g_x121.symm))) nin0)
  refine Own.Sit.caload hG S124 hx V125 ⟨by decide, by decide⟩ rfl rfl rfl (hb hby own_dmethod_5_code_121) ?_
  show G T124 (mkF m 122 #[rv b, iv 4] [(.int c1), (.int 1), (.ref x121), (.ref x121), (.ref x118), (.ref x118)])
  refine Own.Sit.stC hG S124 hx V124 ga_x121 ⟨by decide, by decide⟩ 1 rfl (Nat.le_of_ble_eq_true rfl) rfl rfl (hb hby own_dmethod_5_code_122) (fun T126 h126 S126 J126 (V126 : Arv Z h126 x121 k121 .char (4 : Int32) [(.int c0), (.int (nar .char c1)), (.int 0), (.int 0)] (.int 0)) => ?_)
  rw [own_nar r_c1] at V126
  show G T126 (mkF m 123 #[rv b, iv 4] [(.ref x121), (.ref x118), (.ref x118)])
  refine hG.st (fun t q => XS.dup S126.here hx rfl (hb hby own_dmethod_5_code_123) rfl rfl (XS.iconst S126.here hx rfl (hb hby own_dmethod_5_code_124) (XS.aloadN S126.here hx rfl (hb hby own_dmethod_5_code_125) rfl rfl (XS.iconst S126.here hx rfl (hb hby own_dmethod_5_code_126) q)))) ?_
  show G T126 (mkF m 127 #[rv b, iv 4] [(.int 2), (.ref b), (.int 2), (.ref x121), (.ref x121), (.ref x118), (.ref x118)])
  have V127 := J126.arv V125 (ninS (Nat.ne_of_lt (Nat.lt_of_lt_of_le (Nat.lt_of_lt_of_le A_b.lt J118.1.1) (Nat.le_of_eq g_x121.symm))) nin0)
  refine Own.Sit.caload hG S126 hx V127 ⟨by decide, by decide⟩ rfl rfl rfl (hb hby own_dmethod_5_code_127) ?_
  show G T126 (mkF m 128 #[rv b, iv 4] [(.int c2), (.int 2), (.ref x121), (.ref x121), (.ref x118), (.ref x118)])
  refine Own.Sit.stC hG S126 hx V126 ga_x121 ⟨by decide, by decide⟩ 2 rfl (Nat.le_of_ble_eq_true rfl) rfl rfl (hb hby own_dmethod_5_code_128) (fun T128 h128 S128 J128 (V128 : Arv Z h128 x121 k121 .char (4 : Int32) [(.int c0), (.int c1), (.int (nar .char c2)), (.int 0)] (.int 0)) => ?_)
  rw [own_nar r_c2] at V128
  show G T128 (mkF m 129 #[rv b, iv 4] [(.ref x121), (.ref x118), (.ref x118)])
  refine hG.st (fun t q => XS.dup S128.here hx rfl (hb hby own_dmethod_5_code_129) rfl rfl (XS.iconst S128.here hx rfl (hb hby own_dmethod_5_code_130) (XS.aloadN S128.here hx rfl (hb hby own_dmethod_5_code_131) rfl rfl (XS.iconst S128.here hx rfl (hb hby own_dmethod_5_code_132) q)))) ?_
  show G T128 (mkF m 133 #[rv b, iv 4] [(.int 3), (.ref b), (.int 3), (.ref x121), (.ref x121), (.ref x118), (.ref x118)])
  have V129 := J128.arv V127 (ninS (Nat.ne_of_lt (Nat.lt_of_lt_of_le (Nat.lt_of_lt_of_le A_b.lt J118.1.1) (Nat.le_of_eq g_x121.symm))) nin0)
  refine Own.Sit.caload hG S128 hx V129 ⟨by decide, by decide⟩ rfl rfl rfl (hb hby own_dmethod_5_code_133) ?_
  show G T128 (mkF m 134 #[rv b, iv 4] [(.int c3), (.int 3), (.ref x121), (.ref x121), (.ref x118), (.ref x118)])
  refine Own.Sit.stC hG S128 hx V128 ga_x121 ⟨by decide, by decide⟩ 3 rfl (Nat.le_of_ble_eq_true rfl) rfl rfl (hb hby own_dmethod_5_code_134) (fun T130 h130 S130 J130 (V130 : Arv Z h130 x121 k121 .char (4 : Int32) [(.int c0), (.int c1), (.int c2), (.int (nar .char c3))] (.int 0)) => ?_)
  rw [own_nar r_c3] at V130
  show G T130 (mkF m 135 #[rv b, iv 4] [(.ref x121), (.ref x118), (.ref x118)])
  have J131 : Own.Stp Z consts_1 vm0 h118 vm0 h124 [] := Own.Stp.trans J121 J124 (all0) (allS (Or.inr (Nat.le_of_eq g_x121.symm)) all0)
  have J132 : Own.Stp Z consts_1 vm0 h118 vm0 h126 [] := Own.Stp.trans J131 J126 (all0) (allS (Or.inr (Nat.le_of_eq g_x121.symm)) all0)
  have J133 : Own.Stp Z consts_1 vm0 h118 vm0 h128 [] := Own.Stp.trans J132 J128 (all0) (allS (Or.inr (Nat.le_of_eq g_x121.symm)) all0)
  have J134 : Own.Stp Z consts_1 vm0 h118 vm0 h130 [] := Own.Stp.trans J133 J130 (all0) (allS (Or.inr (Nat.le_of_eq g_x121.symm)) all0)
  have E135 := J134.exa E118
  have F136 := J134.fld F120 nin0
  have F137 := J134.fld F119 nin0
  have Sf138 := J134.safe lt_x118 Sf118
  have hp139 : ∀ c ∈ ([c0, c1, c2, c3] : List Int32), ¬ c < 0 ∧ ¬ (255 : Int32) < c := by
    intro c hc
    simp only [List.mem_cons, List.not_mem_nil, or_false] at hc
    rcases hc with rfl | rfl | rfl | rfl
    · exact r_c0
    · exact r_c1
    · exact r_c2
    · exact r_c3
  refine Own.Sit.newStr hG S130 hx hWs hCm (hW 13 _ rfl) (hW 15 _ rfl) (hW 16 _ rfl) (cs := ([c0, c1, c2, c3] : List Int32)) ga_x118 Sf138 E135 F136 F137 V130 rfl (Nat.le_of_ble_eq_true rfl) (Nat.le_of_ble_eq_true rfl) hp139 (nn := 4) (Nat.le_of_ble_eq_true rfl) rfl (hz _ rfl) (rest := [(.ref x118)]) rfl (W := 1) (by show 2 * 0 + _ ≤ _; exact Nat.le_of_eq rfl) (hb hby own_dmethod_5_code_135) (by decide) (by decide) (by decide) (by decide) (fun T140 h140 y140 S140 J140 u140 St140 => ?_)
  show G T140 (mkF m 138 #[rv b, iv 4] [(.ref x118)])
  have J141 : Own.Stp Z consts_1 vm0 h0 vm0 h124 [] := Own.Stp.trans J122 J124 (all0) (allS (Or.inr (Nat.le_trans J118.1.1 (Nat.le_of_eq g_x121.symm))) all0)
  have J142 : Own.Stp Z consts_1 vm0 h0 vm0 h126 [] := Own.Stp.trans J141 J126 (all0) (allS (Or.inr (Nat.le_trans J118.1.1 (Nat.le_of_eq g_x121.symm))) all0)
  have J143 : Own.Stp Z consts_1 vm0 h0 vm0 h128 [] := Own.Stp.trans J142 J128 (all0) (allS (Or.inr (Nat.le_trans J118.1.1 (Nat.le_of_eq g_x121.symm))) all0)
  have J144 : Own.Stp Z consts_1 vm0 h0 vm0 h130 [] := Own.Stp.trans J143 J130 (all0) (allS (Or.inr (Nat.le_trans J118.1.1 (Nat.le_of_eq g_x121.symm))) all0)
  have J145 : Own.Stp Z consts_1 vm0 h0 vm0 h140 [] := Own.Stp.trans J144 J140 (all0) (allS (Or.inr (Nat.le_of_eq g_x118.symm)) all0)
  exact Own.Sit.retO hR S140 hx hret rfl (Or.inr (Or.inr (Or.inr (Or.inr ⟨rfl, rfl, rfl⟩)))) (hb hby own_dmethod_5_code_138) (by decide) (by decide) ⟨J145.1, x118, _, rfl, St140, (Nat.le_of_eq g_x118.symm)⟩
theorem own_dmethod_5_code_139 : decode method_5_code 139 = .ok (.iload_n 1, 1) := by decide +kernel
theorem own_dmethod_5_code_140 : decode method_5_code 140 = .ok (.iconst 5, 1) := by decide +kernel
theorem own_dmethod_5_code_141 : decode method_5_code 141 = .ok (.if_icmp .ne 44, 3) := by decide +kernel
theorem own_dmethod_5_code_144 : decode method_5_code 144 = .ok (.new 39, 3) := by decide +kernel
theorem own_dmethod_5_code_147 : decode method_5_code 147 = .ok (.dup, 1) := by decide +kernel
theorem own_dmethod_5_code_148 : decode method_5_code 148 = .ok (.iconst 5, 1) := by decide +kernel
theorem own_dmethod_5_code_149 : decode method_5_code 149 = .ok (.newarray .char, 2) := by decide +kernel
theorem own_dmethod_5_code_151 : decode method_5_code 151 = .ok (.dup, 1) := by decide +kernel
theorem own_dmethod_5_code_152 : decode method_5_code 152 = .ok (.iconst 0, 1) := by decide +kernel
theorem own_dmethod_5_code_153 : decode method_5_code 153 = .ok (.aload_n 0, 1) := by decide +kernel
theorem own_dmethod_5_code_154 : decode method_5_code 154 = .ok (.iconst 0, 1) := by decide +kernel
theorem own_dmethod_5_code_155 : decode method_5_code 155 = .ok (.caload, 1) := by decide +kernel
theorem own_dmethod_5_code_156 : decode method_5_code 156 = .ok (.castore, 1) := by decide +kernel
theorem own_dmethod_5_code_157 : decode method_5_code 157 = .ok (.dup, 1) := by decide +kernel
theorem own_dmethod_5_code_158 : decode method_5_code 158 = .ok (.iconst 1, 1) := by decide +kernel
theorem own_dmethod_5_code_159 : decode method_5_code 159 = .ok (.aload_n 0, 1) := by decide +kernel
theorem own_dmethod_5_code_160 : decode method_5_code 160 = .ok (.iconst 1, 1) := by decide +kernel
theorem own_dmethod_5_code_161 : decode method_5_code 161 = .ok (.caload, 1) := by decide +kernel
theorem own_dmethod_5_code_162 : decode method_5_code 162 = .ok (.castore, 1) := by decide +kernel
theorem own_dmethod_5_code_163 : decode method_5_code 163 = .ok (.dup, 1) := by decide +kernel
theorem own_dmethod_5_code_164 : decode method_5_code 164 = .ok (.iconst 2, 1) := by decide +kernel
theorem own_dmethod_5_code_165 : decode method_5_code 165 = .ok (.aload_n 0, 1) := by decide +kernel
theorem own_dmethod_5_code_166 : decode method_5_code 166 = .ok (.iconst 2, 1) := by decide +kernel
theorem own_dmethod_5_code_167 : decode method_5_code 167 = .ok (.caload, 1) := by decide +kernel
theorem own_dmethod_5_code_168 : decode method_5_code 168 = .ok (.castore, 1) := by decide +kernel
theorem own_dmethod_5_code_169 : decode method_5_code 169 = .ok (.dup, 1) := by decide +kernel
theorem own_dmethod_5_code_170 : decode method_5_code 170 = .ok (.iconst 3, 1) := by decide +kernel
theorem own_dmethod_5_code_171 : decode method_5_code 171 = .ok (.aload_n 0, 1) := by decide +kernel
theorem own_dmethod_5_code_172 : decode method_5_code 172 = .ok (.iconst 3, 1) := by decide +kernel
theorem own_dmethod_5_code_173 : decode method_5_code 173 = .ok (.caload, 1) := by decide +kernel
theorem own_dmethod_5_code_174 : decode method_5_code 174 = .ok (.castore, 1) := by decide +kernel
theorem own_dmethod_5_code_175 : decode method_5_code 175 = .ok (.dup, 1) := by decide +kernel
theorem own_dmethod_5_code_176 : decode method_5_code 176 = .ok (.iconst 4, 1) := by decide +kernel
theorem own_dmethod_5_code_177 : decode method_5_code 177 = .ok (.aload_n 0, 1) := by decide +kernel
theorem own_dmethod_5_code_178 : decode method_5_code 178 = .ok (.iconst 4, 1) := by decide +kernel
theorem own_dmethod_5_code_179 : decode method_5_code 179 = .ok (.caload, 1) := by decide +kernel
theorem own_dmethod_5_code_180 : decode method_5_code 180 = .ok (.castore, 1) := by decide +kernel
theorem own_dmethod_5_code_181 : decode method_5_code 181 = .ok (.invokespecial 50, 3) := by decide +kernel
theorem own_dmethod_5_code_184 : decode method_5_code 184 = .ok (.areturn, 1) := by decide +kernel
theorem own_ef_own_str5 (m : MethodId) (b : Addr) : entryFrame m #[(.ref b), (.int 5)] 2 = mkF m 0 #[rv b, iv 5] [] := by first | (simp [entryFrame, mkF, argsToLocals, Value.category]; done) | rfl
set_option maxRecDepth 65536 in
set_option maxHeartbeats 40000000 in
theorem own_str5 (l : Launch) (Z : State) (a0 : Array Value) (H : own_Wld Z a0) {cw : List Jvm.Cond} (b : Addr) (c0 : Int32) (c1 : Int32) (c2 : Int32) (c3 : Int32) (c4 : Int32) (c5 : Int32) (c6 : Int32) (c7 : Int32) (h0 : Heap) (O0 : Ext Z.heap h0) {kb : ClassId} {dv : Value} (A_b : Arv Z h0 b kb .char (8 : Int32) [(.int c0), (.int c1), (.int c2), (.int c3), (.int c4), (.int c5), (.int c6), (.int c7)] dv) (r_c0 : ¬ c0 < 0 ∧ ¬ (255 : Int32) < c0) (r_c1 : ¬ c1 < 0 ∧ ¬ (255 : Int32) < c1) (r_c2 : ¬ c2 < 0 ∧ ¬ (255 : Int32) < c2) (r_c3 : ¬ c3 < 0 ∧ ¬ (255 : Int32) < c3) (r_c4 : ¬ c4 < 0 ∧ ¬ (255 : Int32) < c4) (r_c5 : ¬ c5 < 0 ∧ ¬ (255 : Int32) < c5) (r_c6 : ¬ c6 < 0 ∧ ¬ (255 : Int32) < c6) (r_c7 : ¬ c7 < 0 ∧ ¬ (255 : Int32) < c7) :
    Own.Con l Z consts_1 (⟨"com/example/lorac/lorac/OperationNamedPinLaw", "str", "([CI)Ljava/lang/String;"⟩ : MethodName) method_5_code 2 (some (.object "java/lang/String")) cw ({ frames := 4, cells := 3, slots := 14, locals := 66 } : Room) #[(.ref b), (.int 5)] h0 (fun v h => Keep h0 h [] ∧ ∃ x t, v = some (.ref x) ∧ Own.Str Z h x t ([c0, c1, c2, c3, c4] : List Int32) ∧ h0.size ≤ x) := by
  have hw := H.1
  have hW := fun (i : Nat) (w : Jvm.Cond) (e : tables_1[i]? = some w) => hw w (List.mem_of_getElem? e)
  have hCm := H.2.1
  have hSi := H.2.2.1
  have hEL := H.2.2.2
  have hWs : ∀ d ∈ StrChars.Road.words, d.before a0 Z = true := fun d hd => hw d (own_wbackV d hd)
  have hWc : ∀ d ∈ StrChars.Road.wordsChN, d.before a0 Z = true := fun d hd => hw d (own_wchN d hd)
  have hWe : ∀ d ∈ StrChars.Road.wordsEq, d.before a0 Z = true := fun d hd => hw d (own_weqW d hd)
  have hSA : ∀ d ∈ Bundle.stringAtoms, d.before a0 Z = true := fun d hd => hw d (own_wSA d hd)
  refine Own.Con.of own_pn453927 hEL O0 ?_
  intro p e s m below meth c T0 G vm0 hx hby hml hret hnm hG hR S0
  have hz : ∀ L : Array Slot, L.size = 2 → L.size = c.maxLocals := fun L q => q.trans hml.symm
  rw [own_ef_own_str5]
  show G T0 (mkF m 0 #[rv b, iv 5] [])
  refine hG.st (fun t q => XS.iloadN S0.here hx rfl (hb hby own_dmethod_5_code_0) rfl (XS.ifYes S0.here hx rfl (pc0 := 1) (pc' := 15) rfl (hb hby own_dmethod_5_code_1) rfl ((if0 _ _).trans (feq (by decide : ¬ ((5 : Int32) = (0 : Int32)))).2) (by decide) (by decide) (XS.iloadN S0.here hx rfl (hb hby own_dmethod_5_code_15) rfl (XS.iconst S0.here hx rfl (hb hby own_dmethod_5_code_16) (XS.icmpYes S0.here hx rfl (pc0 := 17) (pc' := 37) rfl (hb hby own_dmethod_5_code_17) rfl (feq (by decide : ¬ ((5 : Int32) = (1 : Int32)))).2 (by decide) (by decide) (XS.iloadN S0.here hx rfl (hb hby own_dmethod_5_code_37) rfl q)))))) ?_
  show G T0 (mkF m 38 #[rv b, iv 5] [(.int 5)])
  refine hG.st (fun t q => XS.iconst S0.here hx rfl (hb hby own_dmethod_5_code_38) (XS.icmpYes S0.here hx rfl (pc0 := 39) (pc' := 65) rfl (hb hby own_dmethod_5_code_39) rfl (feq (by decide : ¬ ((5 : Int32) = (2 : Int32)))).2 (by decide) (by decide) (XS.iloadN S0.here hx rfl (hb hby own_dmethod_5_code_65) rfl (XS.iconst S0.here hx rfl (hb hby own_dmethod_5_code_66) (XS.icmpYes S0.here hx rfl (pc0 := 67) (pc' := 99) rfl (hb hby own_dmethod_5_code_67) rfl (feq (by decide : ¬ ((5 : Int32) = (3 : Int32)))).2 (by decide) (by decide) (XS.iloadN S0.here hx rfl (hb hby own_dmethod_5_code_99) rfl q)))))) ?_
  show G T0 (mkF m 100 #[rv b, iv 5] [(.int 5)])
  refine hG.st (fun t q => XS.iconst S0.here hx rfl (hb hby own_dmethod_5_code_100) (XS.icmpYes S0.here hx rfl (pc0 := 101) (pc' := 139) rfl (hb hby own_dmethod_5_code_101) rfl (feq (by decide : ¬ ((5 : Int32) = (4 : Int32)))).2 (by decide) (by decide) (XS.iloadN S0.here hx rfl (hb hby own_dmethod_5_code_139) rfl (XS.iconst S0.here hx rfl (hb hby own_dmethod_5_code_140) (XS.icmpNo S0.here hx rfl (hb hby own_dmethod_5_code_141) rfl (teq (by decide : (5 : Int32) = (5 : Int32))).2 q))))) ?_
  show G T0 (mkF m 144 #[rv b, iv 5] [])
  refine Own.Sit.newO hG S0 hx (hW 12 _ rfl) (hW 13 _ rfl) (hW 14 _ rfl) rfl (hb hby own_dmethod_5_code_144) (by decide) (by decide) (fun T146 h146 x146 g_x146 S146 J146 Sf146 E146 D146 => ?_)
  have lt_x146 := E146.lt
  have ga_x146 : Z.heap.size ≤ x146 := Nat.le_trans S0.le (Nat.le_of_eq g_x146.symm)
  have F147 : Fld Z h146 x146 "java/lang/String" "coder" "B" (.int 0) := D146 (Or.inr (hW 38 _ rfl)) (ty := .byte) (by decide)
  have F148 : Fld Z h146 x146 "java/lang/String" "value" "[B" .null := D146 (Or.inr (hW 40 _ rfl)) (ty := (.array .byte)) (by decide)
  show G T146 (mkF m 147 #[rv b, iv 5] [(.ref x146)])
  refine hG.st (fun t q => XS.dup S146.here hx rfl (hb hby own_dmethod_5_code_147) rfl rfl (XS.iconst S146.here hx rfl (hb hby own_dmethod_5_code_148) q)) ?_
  show G T146 (mkF m 149 #[rv b, iv 5] [(.int 5), (.ref x146), (.ref x146)])
  refine Own.Sit.newP hG S146 hx (aty := .char) (hW 0 _ rfl) rfl (hb hby own_dmethod_5_code_149) rfl (by decide) (cap := 5) (by decide) (by decide) (by decide) (by decide) (fun T149 h149 x149 k149 g_x149 S149 J149 Sf149 (V149 : Arv Z h149 x149 k149 .char (5 : Int32) [(.int 0), (.int 0), (.int 0), (.int 0), (.int 0)] (.int 0)) => ?_)
  have lt_x149 := V149.lt
  have ga_x149 : Z.heap.size ≤ x149 := Nat.le_trans S146.le (Nat.le_of_eq g_x149.symm)
  show G T149 (mkF m 151 #[rv b, iv 5] [(.ref x149), (.ref x146), (.ref x146)])
  refine hG.st (fun t q => XS.dup S149.here hx rfl (hb hby own_dmethod_5_code_151) rfl rfl (XS.iconst S149.here hx rfl (hb hby own_dmethod_5_code_152) (XS.aloadN S149.here hx rfl (hb hby own_dmethod_5_code_153) rfl rfl (XS.iconst S149.here hx rfl (hb hby own_dmethod_5_code_154) q)))) ?_
  show G T149 (mkF m 155 #[rv b, iv 5] [(.int 0), (.ref b), (.int 0), (.ref x149), (.ref x149), (.ref x146), (.ref x146)])
  have J150 : Own.Stp Z consts_1 vm0 h0 vm0 h149 [] := Own.Stp.trans J146 J149 (all0) all0
  have V151 := J150.arv A_b nin0
  refine Own.Sit.caload hG S149 hx V151 ⟨by decide, by decide⟩ rfl rfl rfl (hb hby own_dmethod_5_code_155) ?_
  show G T149 (mkF m 156 #[rv b, iv 5] [(.int c0), (.int 0), (.ref x149), (.ref x149), (.ref x146), (.ref x146)])
  refine Own.Sit.stC hG S149 hx V149 ga_x149 ⟨by decide, by decide⟩ 0 rfl (Nat.le_of_ble_eq_true rfl) rfl rfl (hb hby own_dmethod_5_code_156) (fun T152 h152 S152 J152 (V152 : Arv Z h152 x149 k149 .char (5 : Int32) [(.int (nar .char c0)), (.int 0), (.int 0), (.int 0), (.int 0)] (.int 0)) => ?_)
  rw [own_nar r_c0] at V152
  show G T152 (mkF m 157 #[rv b, iv 5] [(.ref x149), (.ref x146), (.ref x146)])
  refine hG.st (fun t q => XS.dup S152.here hx rfl (hb hby own_dmethod_5_code_157) rfl rfl (XS.iconst S152.here hx rfl (hb hby own_dmethod_5_code_158) (XS.aloadN S152.here hx rfl (hb hby own_dmethod_5_code_159) rfl rfl (XS.iconst S152.here hx rfl (hb hby own_dmethod_5_code_160) q)))) ?_
  show G T152 (mkF m 161 #[rv b, iv 5] [(.int 1), (.ref b), (.int 1), (.ref x149), (.ref x149), (.ref x146), (.ref x146)])
  have V153 := J152.arv V151 (ninS (Nat.ne_of_lt (Nat.lt_of_lt_of_le (Nat.lt_of_lt_of_le A_b.lt J146.1.1) (Nat.le_of_eq g_x149.symm))) nin0)
  refine Own.Sit.caload hG S152 hx V153 ⟨by decide, by decide⟩ rfl rfl rfl (hb hby own_dmethod_5_code_161) ?_
  show G T152 (mkF m 162 #[rv b, iv 5] [(.int c1), (.int 1), (.ref x149), (.ref x149), (.ref x146), (.ref x146)])
  refine Own.Sit.stC hG S152 hx V152 ga_x149 ⟨by decide, by decide⟩ 1 rfl (Nat.le_of_ble_eq_true rfl) rfl rfl (hb hby own_dmethod_5_code_162) (fun T154 h154 S154 J154 (V154 : Arv Z h154 x149 k149 .char (5 : Int32) [(.int c0), (.int (nar .char c1)), (.int 0), (.int 0), (.int 0)] (.int 0)) => ?_)
  rw [own_nar r_c1] at V154
  show G T154 (mkF m 163 #[rv b, iv 5] [(.ref x149), (.ref x146), (.ref x146)])
  refine hG.st (fun t q => XS.dup S154.here hx rfl (hb hby own_dmethod_5_code_163) rfl rfl (XS.iconst S154.here hx rfl (hb hby own_dmethod_5_code_164) (XS.aloadN S154.here hx rfl (hb hby own_dmethod_5_code_165) rfl rfl (XS.iconst S154.here hx rfl (hb hby own_dmethod_5_code_166) q)))) ?_
  show G T154 (mkF m 167 #[rv b, iv 5] [(.int 2), (.ref b), (.int 2), (.ref x149), (.ref x149), (.ref x146), (.ref x146)])
  have V155 := J154.arv V153 (ninS (Nat.ne_of_lt (Nat.lt_of_lt_of_le (Nat.lt_of_lt_of_le A_b.lt J146.1.1) (Nat.le_of_eq g_x149.symm))) nin0)
  refine Own.Sit.caload hG S154 hx V155 ⟨by decide, by decide⟩ rfl rfl rfl (hb hby own_dmethod_5_code_167) ?_
  show G T154 (mkF m 168 #[rv b, iv 5] [(.int c2), (.int 2), (.ref x149), (.ref x149), (.ref x146), (.ref x146)])
  refine Own.Sit.stC hG S154 hx V154 ga_x149 ⟨by decide, by decide⟩ 2 rfl (Nat.le_of_ble_eq_true rfl) rfl rfl (hb hby own_dmethod_5_code_168) (fun T156 h156 S156 J156 (V156 : Arv Z h156 x149 k149 .char (5 : Int32) [(.int c0), (.int c1), (.int (nar .char c2)), (.int 0), (.int 0)] (.int 0)) => ?_)
  rw [own_nar r_c2] at V156
  show G T156 (mkF m 169 #[rv b, iv 5] [(.ref x149), (.ref x146), (.ref x146)])
  refine hG.st (fun t q => XS.dup S156.here hx rfl (hb hby own_dmethod_5_code_169) rfl rfl (XS.iconst S156.here hx rfl (hb hby own_dmethod_5_code_170) (XS.aloadN S156.here hx rfl (hb hby own_dmethod_5_code_171) rfl rfl (XS.iconst S156.here hx rfl (hb hby own_dmethod_5_code_172) q)))) ?_
  show G T156 (mkF m 173 #[rv b, iv 5] [(.int 3), (.ref b), (.int 3), (.ref x149), (.ref x149), (.ref x146), (.ref x146)])
  have V157 := J156.arv V155 (ninS (Nat.ne_of_lt (Nat.lt_of_lt_of_le (Nat.lt_of_lt_of_le A_b.lt J146.1.1) (Nat.le_of_eq g_x149.symm))) nin0)
  refine Own.Sit.caload hG S156 hx V157 ⟨by decide, by decide⟩ rfl rfl rfl (hb hby own_dmethod_5_code_173) ?_
  show G T156 (mkF m 174 #[rv b, iv 5] [(.int c3), (.int 3), (.ref x149), (.ref x149), (.ref x146), (.ref x146)])
  refine Own.Sit.stC hG S156 hx V156 ga_x149 ⟨by decide, by decide⟩ 3 rfl (Nat.le_of_ble_eq_true rfl) rfl rfl (hb hby own_dmethod_5_code_174) (fun T158 h158 S158 J158 (V158 : Arv Z h158 x149 k149 .char (5 : Int32) [(.int c0), (.int c1), (.int c2), (.int (nar .char c3)), (.int 0)] (.int 0)) => ?_)
  rw [own_nar r_c3] at V158
  show G T158 (mkF m 175 #[rv b, iv 5] [(.ref x149), (.ref x146), (.ref x146)])
  refine hG.st (fun t q => XS.dup S158.here hx rfl (hb hby own_dmethod_5_code_175) rfl rfl (XS.iconst S158.here hx rfl (hb hby own_dmethod_5_code_176) (XS.aloadN S158.here hx rfl (hb hby own_dmethod_5_code_177) rfl rfl (XS.iconst S158.here hx rfl (hb hby own_dmethod_5_code_178) q)))) ?_
  show G T158 (mkF m 179 #[rv b, iv 5] [(.int 4), (.ref b), (.int 4), (.ref x149), (.ref x149), (.ref x146), (.ref x146)])
  have V159 := J158.arv V157 (ninS (Nat.ne_of_lt (Nat.lt_of_lt_of_le (Nat.lt_of_lt_of_le A_b.lt J146.1.1) (Nat.le_of_eq g_x149.symm))) nin0)
  refine Own.Sit.caload hG S158 hx V159 ⟨by decide, by decide⟩ rfl rfl rfl (hb hby own_dmethod_5_code_179) ?_
  show G T158 (mkF m 180 #[rv b, iv 5] [(.int c4), (.int 4), (.ref x149), (.ref x149), (.ref x146), (.ref x146)])
  refine Own.Sit.stC hG S158 hx V158 ga_x149 ⟨by decide, by decide⟩ 4 rfl (Nat.le_of_ble_eq_true rfl) rfl rfl (hb hby own_dmethod_5_code_180) (fun T160 h160 S160 J160 (V160 : Arv Z h160 x149 k149 .char (5 : Int32) [(.int c0), (.int c1), (.int c2), (.int c3), (.int (nar .char c4))] (.int 0)) => ?_)
  rw [own_nar r_c4] at V160
  show G T160 (mkF m 181 #[rv b, iv 5] [(.ref x149), (.ref x146), (.ref x146)])
  have J161 : Own.Stp Z consts_1 vm0 h146 vm0 h152 [] := Own.Stp.trans J149 J152 (all0) (allS (Or.inr (Nat.le_of_eq g_x149.symm)) all0)
  have J162 : Own.Stp Z consts_1 vm0 h146 vm0 h154 [] := Own.Stp.trans J161 J154 (all0) (allS (Or.inr (Nat.le_of_eq g_x149.symm)) all0)
  have J163 : Own.Stp Z consts_1 vm0 h146 vm0 h156 [] := Own.Stp.trans J162 J156 (all0) (allS (Or.inr (Nat.le_of_eq g_x149.symm)) all0)
  have J164 : Own.Stp Z consts_1 vm0 h146 vm0 h158 [] := Own.Stp.trans J163 J158 (all0) (allS (Or.inr (Nat.le_of_eq g_x149.symm)) all0)
  have J165 : Own.Stp Z consts_1 vm0 h146 vm0 h160 [] := Own.Stp.trans J164 J160 (all0) (allS (Or.inr (Nat.le_of_eq g_x149.symm)) all0)
  have E166 := J165.exa E146
  have F167 := J165.fld F148 nin0
  have F168 := J165.fld F147 nin0
  have Sf169 := J165.safe lt_x146 Sf146
  have hp170 : ∀ c ∈ ([c0, c1, c2, c3, c4] : List Int32), ¬ c < 0 ∧ ¬ (255 : Int32) < c := by
    intro c hc
    simp only [List.mem_cons, List.not_mem_nil, or_false] at hc
    rcases hc with rfl | rfl | rfl | rfl | rfl
    · exact r_c0
    · exact r_c1
    · exact r_c2
    · exact r_c3
    · exact r_c4
  refine Own.Sit.newStr hG S160 hx hWs hCm (hW 13 _ rfl) (hW 15 _ rfl) (hW 16 _ rfl) (cs := ([c0, c1, c2, c3, c4] : List Int32)) ga_x146 Sf169 E166 F167 F168 V160 rfl (Nat.le_of_ble_eq_true rfl) (Nat.le_of_ble_eq_true rfl) hp170 (nn := 5) (Nat.le_of_ble_eq_true rfl) rfl (hz _ rfl) (rest := [(.ref x146)]) rfl (W := 1) (by show 2 * 0 + _ ≤ _; exact Nat.le_of_eq rfl) (hb hby own_dmethod_5_code_181) (by decide) (by decide) (by decide) (by decide) (fun T171 h171 y171 S171 J171 u171 St171 => ?_)
  show G T171 (mkF m 184 #[rv b, iv 5] [(.ref x146)])
  have J172 : Own.Stp Z consts_1 vm0 h0 vm0 h152 [] := Own.Stp.trans J150 J152 (all0) (allS (Or.inr (Nat.le_trans J146.1.1 (Nat.le_of_eq g_x149.symm))) all0)
  have J173 : Own.Stp Z consts_1 vm0 h0 vm0 h154 [] := Own.Stp.trans J172 J154 (all0) (allS (Or.inr (Nat.le_trans J146.1.1 (Nat.le_of_eq g_x149.symm))) all0)
  have J174 : Own.Stp Z consts_1 vm0 h0 vm0 h156 [] := Own.Stp.trans J173 J156 (all0) (allS (Or.inr (Nat.le_trans J146.1.1 (Nat.le_of_eq g_x149.symm))) all0)
  have J175 : Own.Stp Z consts_1 vm0 h0 vm0 h158 [] := Own.Stp.trans J174 J158 (all0) (allS (Or.inr (Nat.le_trans J146.1.1 (Nat.le_of_eq g_x149.symm))) all0)
  have J176 : Own.Stp Z consts_1 vm0 h0 vm0 h160 [] := Own.Stp.trans J175 J160 (all0) (allS (Or.inr (Nat.le_trans J146.1.1 (Nat.le_of_eq g_x149.symm))) all0)
  have J177 : Own.Stp Z consts_1 vm0 h0 vm0 h171 [] := Own.Stp.trans J176 J171 (all0) (allS (Or.inr (Nat.le_of_eq g_x146.symm)) all0)
  exact Own.Sit.retO hR S171 hx hret rfl (Or.inr (Or.inr (Or.inr (Or.inr ⟨rfl, rfl, rfl⟩)))) (hb hby own_dmethod_5_code_184) (by decide) (by decide) ⟨J177.1, x146, _, rfl, St171, (Nat.le_of_eq g_x146.symm)⟩
theorem own_dmethod_5_code_185 : decode method_5_code 185 = .ok (.iload_n 1, 1) := by decide +kernel
theorem own_dmethod_5_code_186 : decode method_5_code 186 = .ok (.bipush 6, 2) := by decide +kernel
theorem own_dmethod_5_code_188 : decode method_5_code 188 = .ok (.if_icmp .ne 51, 3) := by decide +kernel
theorem own_dmethod_5_code_191 : decode method_5_code 191 = .ok (.new 39, 3) := by decide +kernel
theorem own_dmethod_5_code_194 : decode method_5_code 194 = .ok (.dup, 1) := by decide +kernel
theorem own_dmethod_5_code_195 : decode method_5_code 195 = .ok (.bipush 6, 2) := by decide +kernel
theorem own_dmethod_5_code_197 : decode method_5_code 197 = .ok (.newarray .char, 2) := by decide +kernel
theorem own_dmethod_5_code_199 : decode method_5_code 199 = .ok (.dup, 1) := by decide +kernel
theorem own_dmethod_5_code_200 : decode method_5_code 200 = .ok (.iconst 0, 1) := by decide +kernel
theorem own_dmethod_5_code_201 : decode method_5_code 201 = .ok (.aload_n 0, 1) := by decide +kernel
theorem own_dmethod_5_code_202 : decode method_5_code 202 = .ok (.iconst 0, 1) := by decide +kernel
theorem own_dmethod_5_code_203 : decode method_5_code 203 = .ok (.caload, 1) := by decide +kernel
theorem own_dmethod_5_code_204 : decode method_5_code 204 = .ok (.castore, 1) := by decide +kernel
theorem own_dmethod_5_code_205 : decode method_5_code 205 = .ok (.dup, 1) := by decide +kernel
theorem own_dmethod_5_code_206 : decode method_5_code 206 = .ok (.iconst 1, 1) := by decide +kernel
theorem own_dmethod_5_code_207 : decode method_5_code 207 = .ok (.aload_n 0, 1) := by decide +kernel
theorem own_dmethod_5_code_208 : decode method_5_code 208 = .ok (.iconst 1, 1) := by decide +kernel
theorem own_dmethod_5_code_209 : decode method_5_code 209 = .ok (.caload, 1) := by decide +kernel
theorem own_dmethod_5_code_210 : decode method_5_code 210 = .ok (.castore, 1) := by decide +kernel
theorem own_dmethod_5_code_211 : decode method_5_code 211 = .ok (.dup, 1) := by decide +kernel
theorem own_dmethod_5_code_212 : decode method_5_code 212 = .ok (.iconst 2, 1) := by decide +kernel
theorem own_dmethod_5_code_213 : decode method_5_code 213 = .ok (.aload_n 0, 1) := by decide +kernel
theorem own_dmethod_5_code_214 : decode method_5_code 214 = .ok (.iconst 2, 1) := by decide +kernel
theorem own_dmethod_5_code_215 : decode method_5_code 215 = .ok (.caload, 1) := by decide +kernel
theorem own_dmethod_5_code_216 : decode method_5_code 216 = .ok (.castore, 1) := by decide +kernel
theorem own_dmethod_5_code_217 : decode method_5_code 217 = .ok (.dup, 1) := by decide +kernel
theorem own_dmethod_5_code_218 : decode method_5_code 218 = .ok (.iconst 3, 1) := by decide +kernel
theorem own_dmethod_5_code_219 : decode method_5_code 219 = .ok (.aload_n 0, 1) := by decide +kernel
theorem own_dmethod_5_code_220 : decode method_5_code 220 = .ok (.iconst 3, 1) := by decide +kernel
theorem own_dmethod_5_code_221 : decode method_5_code 221 = .ok (.caload, 1) := by decide +kernel
theorem own_dmethod_5_code_222 : decode method_5_code 222 = .ok (.castore, 1) := by decide +kernel
theorem own_dmethod_5_code_223 : decode method_5_code 223 = .ok (.dup, 1) := by decide +kernel
theorem own_dmethod_5_code_224 : decode method_5_code 224 = .ok (.iconst 4, 1) := by decide +kernel
theorem own_dmethod_5_code_225 : decode method_5_code 225 = .ok (.aload_n 0, 1) := by decide +kernel
theorem own_dmethod_5_code_226 : decode method_5_code 226 = .ok (.iconst 4, 1) := by decide +kernel
theorem own_dmethod_5_code_227 : decode method_5_code 227 = .ok (.caload, 1) := by decide +kernel
theorem own_dmethod_5_code_228 : decode method_5_code 228 = .ok (.castore, 1) := by decide +kernel
theorem own_dmethod_5_code_229 : decode method_5_code 229 = .ok (.dup, 1) := by decide +kernel
theorem own_dmethod_5_code_230 : decode method_5_code 230 = .ok (.iconst 5, 1) := by decide +kernel
theorem own_dmethod_5_code_231 : decode method_5_code 231 = .ok (.aload_n 0, 1) := by decide +kernel
theorem own_dmethod_5_code_232 : decode method_5_code 232 = .ok (.iconst 5, 1) := by decide +kernel
theorem own_dmethod_5_code_233 : decode method_5_code 233 = .ok (.caload, 1) := by decide +kernel
theorem own_dmethod_5_code_234 : decode method_5_code 234 = .ok (.castore, 1) := by decide +kernel
theorem own_dmethod_5_code_235 : decode method_5_code 235 = .ok (.invokespecial 50, 3) := by decide +kernel
theorem own_dmethod_5_code_238 : decode method_5_code 238 = .ok (.areturn, 1) := by decide +kernel
theorem own_ef_own_str6 (m : MethodId) (b : Addr) : entryFrame m #[(.ref b), (.int 6)] 2 = mkF m 0 #[rv b, iv 6] [] := by first | (simp [entryFrame, mkF, argsToLocals, Value.category]; done) | rfl
set_option maxRecDepth 65536 in
set_option maxHeartbeats 40000000 in
theorem own_str6 (l : Launch) (Z : State) (a0 : Array Value) (H : own_Wld Z a0) {cw : List Jvm.Cond} (b : Addr) (c0 : Int32) (c1 : Int32) (c2 : Int32) (c3 : Int32) (c4 : Int32) (c5 : Int32) (c6 : Int32) (c7 : Int32) (h0 : Heap) (O0 : Ext Z.heap h0) {kb : ClassId} {dv : Value} (A_b : Arv Z h0 b kb .char (8 : Int32) [(.int c0), (.int c1), (.int c2), (.int c3), (.int c4), (.int c5), (.int c6), (.int c7)] dv) (r_c0 : ¬ c0 < 0 ∧ ¬ (255 : Int32) < c0) (r_c1 : ¬ c1 < 0 ∧ ¬ (255 : Int32) < c1) (r_c2 : ¬ c2 < 0 ∧ ¬ (255 : Int32) < c2) (r_c3 : ¬ c3 < 0 ∧ ¬ (255 : Int32) < c3) (r_c4 : ¬ c4 < 0 ∧ ¬ (255 : Int32) < c4) (r_c5 : ¬ c5 < 0 ∧ ¬ (255 : Int32) < c5) (r_c6 : ¬ c6 < 0 ∧ ¬ (255 : Int32) < c6) (r_c7 : ¬ c7 < 0 ∧ ¬ (255 : Int32) < c7) :
    Own.Con l Z consts_1 (⟨"com/example/lorac/lorac/OperationNamedPinLaw", "str", "([CI)Ljava/lang/String;"⟩ : MethodName) method_5_code 2 (some (.object "java/lang/String")) cw ({ frames := 4, cells := 3, slots := 16, locals := 66 } : Room) #[(.ref b), (.int 6)] h0 (fun v h => Keep h0 h [] ∧ ∃ x t, v = some (.ref x) ∧ Own.Str Z h x t ([c0, c1, c2, c3, c4, c5] : List Int32) ∧ h0.size ≤ x) := by
  have hw := H.1
  have hW := fun (i : Nat) (w : Jvm.Cond) (e : tables_1[i]? = some w) => hw w (List.mem_of_getElem? e)
  have hCm := H.2.1
  have hSi := H.2.2.1
  have hEL := H.2.2.2
  have hWs : ∀ d ∈ StrChars.Road.words, d.before a0 Z = true := fun d hd => hw d (own_wbackV d hd)
  have hWc : ∀ d ∈ StrChars.Road.wordsChN, d.before a0 Z = true := fun d hd => hw d (own_wchN d hd)
  have hWe : ∀ d ∈ StrChars.Road.wordsEq, d.before a0 Z = true := fun d hd => hw d (own_weqW d hd)
  have hSA : ∀ d ∈ Bundle.stringAtoms, d.before a0 Z = true := fun d hd => hw d (own_wSA d hd)
  refine Own.Con.of own_pn453927 hEL O0 ?_
  intro p e s m below meth c T0 G vm0 hx hby hml hret hnm hG hR S0
  have hz : ∀ L : Array Slot, L.size = 2 → L.size = c.maxLocals := fun L q => q.trans hml.symm
  rw [own_ef_own_str6]
  show G T0 (mkF m 0 #[rv b, iv 6] [])
  refine hG.st (fun t q => XS.iloadN S0.here hx rfl (hb hby own_dmethod_5_code_0) rfl (XS.ifYes S0.here hx rfl (pc0 := 1) (pc' := 15) rfl (hb hby own_dmethod_5_code_1) rfl ((if0 _ _).trans (feq (by decide : ¬ ((6 : Int32) = (0 : Int32)))).2) (by decide) (by decide) (XS.iloadN S0.here hx rfl (hb hby own_dmethod_5_code_15) rfl (XS.iconst S0.here hx rfl (hb hby own_dmethod_5_code_16) (XS.icmpYes S0.here hx rfl (pc0 := 17) (pc' := 37) rfl (hb hby own_dmethod_5_code_17) rfl (feq (by decide : ¬ ((6 : Int32) = (1 : Int32)))).2 (by decide) (by decide) (XS.iloadN S0.here hx rfl (hb hby own_dmethod_5_code_37) rfl q)))))) ?_
  show G T0 (mkF m 38 #[rv b, iv 6] [(.int 6)])
  refine hG.st (fun t q => XS.iconst S0.here hx rfl (hb hby own_dmethod_5_code_38) (XS.icmpYes S0.here hx rfl (pc0 := 39) (pc' := 65) rfl (hb hby own_dmethod_5_code_39) rfl (feq (by decide : ¬ ((6 : Int32) = (2 : Int32)))).2 (by decide) (by decide) (XS.iloadN S0.here hx rfl (hb hby own_dmethod_5_code_65) rfl (XS.iconst S0.here hx rfl (hb hby own_dmethod_5_code_66) (XS.icmpYes S0.here hx rfl (pc0 := 67) (pc' := 99) rfl (hb hby own_dmethod_5_code_67) rfl (feq (by decide : ¬ ((6 : Int32) = (3 : Int32)))).2 (by decide) (by decide) (XS.iloadN S0.here hx rfl (hb hby own_dmethod_5_code_99) rfl q)))))) ?_
  show G T0 (mkF m 100 #[rv b, iv 6] [(.int 6)])
  refine hG.st (fun t q => XS.iconst S0.here hx rfl (hb hby own_dmethod_5_code_100) (XS.icmpYes S0.here hx rfl (pc0 := 101) (pc' := 139) rfl (hb hby own_dmethod_5_code_101) rfl (feq (by decide : ¬ ((6 : Int32) = (4 : Int32)))).2 (by decide) (by decide) (XS.iloadN S0.here hx rfl (hb hby own_dmethod_5_code_139) rfl (XS.iconst S0.here hx rfl (hb hby own_dmethod_5_code_140) (XS.icmpYes S0.here hx rfl (pc0 := 141) (pc' := 185) rfl (hb hby own_dmethod_5_code_141) rfl (feq (by decide : ¬ ((6 : Int32) = (5 : Int32)))).2 (by decide) (by decide) (XS.iloadN S0.here hx rfl (hb hby own_dmethod_5_code_185) rfl q)))))) ?_
  show G T0 (mkF m 186 #[rv b, iv 6] [(.int 6)])
  refine hG.st (fun t q => XS.bipush S0.here hx rfl (hb hby own_dmethod_5_code_186) (XS.icmpNo S0.here hx rfl (hb hby own_dmethod_5_code_188) rfl (teq (by decide : (6 : Int32) = (6 : Int32))).2 q)) ?_
  show G T0 (mkF m 191 #[rv b, iv 6] [])
  refine Own.Sit.newO hG S0 hx (hW 12 _ rfl) (hW 13 _ rfl) (hW 14 _ rfl) rfl (hb hby own_dmethod_5_code_191) (by decide) (by decide) (fun T178 h178 x178 g_x178 S178 J178 Sf178 E178 D178 => ?_)
  have lt_x178 := E178.lt
  have ga_x178 : Z.heap.size ≤ x178 := Nat.le_trans S0.le (Nat.le_of_eq g_x178.symm)
  have F179 : Fld Z h178 x178 "java/lang/String" "coder" "B" (.int 0) := D178 (Or.inr (hW 38 _ rfl)) (ty := .byte) (by decide)
  have F180 : Fld Z h178 x178 "java/lang/String" "value" "[B" .null := D178 (Or.inr (hW 40 _ rfl)) (ty := (.array .byte)) (by decide)
  show G T178 (mkF m 194 #[rv b, iv 6] [(.ref x178)])
  refine hG.st (fun t q => XS.dup S178.here hx rfl (hb hby own_dmethod_5_code_194) rfl rfl (XS.bipush S178.here hx rfl (hb hby own_dmethod_5_code_195) q)) ?_
  show G T178 (mkF m 197 #[rv b, iv 6] [(.int 6), (.ref x178), (.ref x178)])
  refine Own.Sit.newP hG S178 hx (aty := .char) (hW 0 _ rfl) rfl (hb hby own_dmethod_5_code_197) rfl (by decide) (cap := 6) (by decide) (by decide) (by decide) (by decide) (fun T181 h181 x181 k181 g_x181 S181 J181 Sf181 (V181 : Arv Z h181 x181 k181 .char (6 : Int32) [(.int 0), (.int 0), (.int 0), (.int 0), (.int 0), (.int 0)] (.int 0)) => ?_)
  have lt_x181 := V181.lt
  have ga_x181 : Z.heap.size ≤ x181 := Nat.le_trans S178.le (Nat.le_of_eq g_x181.symm)
  show G T181 (mkF m 199 #[rv b, iv 6] [(.ref x181), (.ref x178), (.ref x178)])
  refine hG.st (fun t q => XS.dup S181.here hx rfl (hb hby own_dmethod_5_code_199) rfl rfl (XS.iconst S181.here hx rfl (hb hby own_dmethod_5_code_200) (XS.aloadN S181.here hx rfl (hb hby own_dmethod_5_code_201) rfl rfl (XS.iconst S181.here hx rfl (hb hby own_dmethod_5_code_202) q)))) ?_
  show G T181 (mkF m 203 #[rv b, iv 6] [(.int 0), (.ref b), (.int 0), (.ref x181), (.ref x181), (.ref x178), (.ref x178)])
  have J182 : Own.Stp Z consts_1 vm0 h0 vm0 h181 [] := Own.Stp.trans J178 J181 (all0) all0
  have V183 := J182.arv A_b nin0
  refine Own.Sit.caload hG S181 hx V183 ⟨by decide, by decide⟩ rfl rfl rfl (hb hby own_dmethod_5_code_203) ?_
  show G T181 (mkF m 204 #[rv b, iv 6] [(.int c0), (.int 0), (.ref x181), (.ref x181), (.ref x178), (.ref x178)])
  refine Own.Sit.stC hG S181 hx V181 ga_x181 ⟨by decide, by decide⟩ 0 rfl (Nat.le_of_ble_eq_true rfl) rfl rfl (hb hby own_dmethod_5_code_204) (fun T184 h184 S184 J184 (V184 : Arv Z h184 x181 k181 .char (6 : Int32) [(.int (nar .char c0)), (.int 0), (.int 0), (.int 0), (.int 0), (.int 0)] (.int 0)) => ?_)
  rw [own_nar r_c0] at V184
  show G T184 (mkF m 205 #[rv b, iv 6] [(.ref x181), (.ref x178), (.ref x178)])
  refine hG.st (fun t q => XS.dup S184.here hx rfl (hb hby own_dmethod_5_code_205) rfl rfl (XS.iconst S184.here hx rfl (hb hby own_dmethod_5_code_206) (XS.aloadN S184.here hx rfl (hb hby own_dmethod_5_code_207) rfl rfl (XS.iconst S184.here hx rfl (hb hby own_dmethod_5_code_208) q)))) ?_
  show G T184 (mkF m 209 #[rv b, iv 6] [(.int 1), (.ref b), (.int 1), (.ref x181), (.ref x181), (.ref x178), (.ref x178)])
  have V185 := J184.arv V183 (ninS (Nat.ne_of_lt (Nat.lt_of_lt_of_le (Nat.lt_of_lt_of_le A_b.lt J178.1.1) (Nat.le_of_eq g_x181.symm))) nin0)
  refine Own.Sit.caload hG S184 hx V185 ⟨by decide, by decide⟩ rfl rfl rfl (hb hby own_dmethod_5_code_209) ?_
  show G T184 (mkF m 210 #[rv b, iv 6] [(.int c1), (.int 1), (.ref x181), (.ref x181), (.ref x178), (.ref x178)])
  refine Own.Sit.stC hG S184 hx V184 ga_x181 ⟨by decide, by decide⟩ 1 rfl (Nat.le_of_ble_eq_true rfl) rfl rfl (hb hby own_dmethod_5_code_210) (fun T186 h186 S186 J186 (V186 : Arv Z h186 x181 k181 .char (6 : Int32) [(.int c0), (.int (nar .char c1)), (.int 0), (.int 0), (.int 0), (.int 0)] (.int 0)) => ?_)
  rw [own_nar r_c1] at V186
  show G T186 (mkF m 211 #[rv b, iv 6] [(.ref x181), (.ref x178), (.ref x178)])
  refine hG.st (fun t q => XS.dup S186.here hx rfl (hb hby own_dmethod_5_code_211) rfl rfl (XS.iconst S186.here hx rfl (hb hby own_dmethod_5_code_212) (XS.aloadN S186.here hx rfl (hb hby own_dmethod_5_code_213) rfl rfl (XS.iconst S186.here hx rfl (hb hby own_dmethod_5_code_214) q)))) ?_
  show G T186 (mkF m 215 #[rv b, iv 6] [(.int 2), (.ref b), (.int 2), (.ref x181), (.ref x181), (.ref x178), (.ref x178)])
  have V187 := J186.arv V185 (ninS (Nat.ne_of_lt (Nat.lt_of_lt_of_le (Nat.lt_of_lt_of_le A_b.lt J178.1.1) (Nat.le_of_eq g_x181.symm))) nin0)
  refine Own.Sit.caload hG S186 hx V187 ⟨by decide, by decide⟩ rfl rfl rfl (hb hby own_dmethod_5_code_215) ?_
  show G T186 (mkF m 216 #[rv b, iv 6] [(.int c2), (.int 2), (.ref x181), (.ref x181), (.ref x178), (.ref x178)])
  refine Own.Sit.stC hG S186 hx V186 ga_x181 ⟨by decide, by decide⟩ 2 rfl (Nat.le_of_ble_eq_true rfl) rfl rfl (hb hby own_dmethod_5_code_216) (fun T188 h188 S188 J188 (V188 : Arv Z h188 x181 k181 .char (6 : Int32) [(.int c0), (.int c1), (.int (nar .char c2)), (.int 0), (.int 0), (.int 0)] (.int 0)) => ?_)
  rw [own_nar r_c2] at V188
  show G T188 (mkF m 217 #[rv b, iv 6] [(.ref x181), (.ref x178), (.ref x178)])
  refine hG.st (fun t q => XS.dup S188.here hx rfl (hb hby own_dmethod_5_code_217) rfl rfl (XS.iconst S188.here hx rfl (hb hby own_dmethod_5_code_218) (XS.aloadN S188.here hx rfl (hb hby own_dmethod_5_code_219) rfl rfl (XS.iconst S188.here hx rfl (hb hby own_dmethod_5_code_220) q)))) ?_
  show G T188 (mkF m 221 #[rv b, iv 6] [(.int 3), (.ref b), (.int 3), (.ref x181), (.ref x181), (.ref x178), (.ref x178)])
  have V189 := J188.arv V187 (ninS (Nat.ne_of_lt (Nat.lt_of_lt_of_le (Nat.lt_of_lt_of_le A_b.lt J178.1.1) (Nat.le_of_eq g_x181.symm))) nin0)
  refine Own.Sit.caload hG S188 hx V189 ⟨by decide, by decide⟩ rfl rfl rfl (hb hby own_dmethod_5_code_221) ?_
  show G T188 (mkF m 222 #[rv b, iv 6] [(.int c3), (.int 3), (.ref x181), (.ref x181), (.ref x178), (.ref x178)])
  refine Own.Sit.stC hG S188 hx V188 ga_x181 ⟨by decide, by decide⟩ 3 rfl (Nat.le_of_ble_eq_true rfl) rfl rfl (hb hby own_dmethod_5_code_222) (fun T190 h190 S190 J190 (V190 : Arv Z h190 x181 k181 .char (6 : Int32) [(.int c0), (.int c1), (.int c2), (.int (nar .char c3)), (.int 0), (.int 0)] (.int 0)) => ?_)
  rw [own_nar r_c3] at V190
  show G T190 (mkF m 223 #[rv b, iv 6] [(.ref x181), (.ref x178), (.ref x178)])
  refine hG.st (fun t q => XS.dup S190.here hx rfl (hb hby own_dmethod_5_code_223) rfl rfl (XS.iconst S190.here hx rfl (hb hby own_dmethod_5_code_224) (XS.aloadN S190.here hx rfl (hb hby own_dmethod_5_code_225) rfl rfl (XS.iconst S190.here hx rfl (hb hby own_dmethod_5_code_226) q)))) ?_
  show G T190 (mkF m 227 #[rv b, iv 6] [(.int 4), (.ref b), (.int 4), (.ref x181), (.ref x181), (.ref x178), (.ref x178)])
  have V191 := J190.arv V189 (ninS (Nat.ne_of_lt (Nat.lt_of_lt_of_le (Nat.lt_of_lt_of_le A_b.lt J178.1.1) (Nat.le_of_eq g_x181.symm))) nin0)
  refine Own.Sit.caload hG S190 hx V191 ⟨by decide, by decide⟩ rfl rfl rfl (hb hby own_dmethod_5_code_227) ?_
  show G T190 (mkF m 228 #[rv b, iv 6] [(.int c4), (.int 4), (.ref x181), (.ref x181), (.ref x178), (.ref x178)])
  refine Own.Sit.stC hG S190 hx V190 ga_x181 ⟨by decide, by decide⟩ 4 rfl (Nat.le_of_ble_eq_true rfl) rfl rfl (hb hby own_dmethod_5_code_228) (fun T192 h192 S192 J192 (V192 : Arv Z h192 x181 k181 .char (6 : Int32) [(.int c0), (.int c1), (.int c2), (.int c3), (.int (nar .char c4)), (.int 0)] (.int 0)) => ?_)
  rw [own_nar r_c4] at V192
  show G T192 (mkF m 229 #[rv b, iv 6] [(.ref x181), (.ref x178), (.ref x178)])
  refine hG.st (fun t q => XS.dup S192.here hx rfl (hb hby own_dmethod_5_code_229) rfl rfl (XS.iconst S192.here hx rfl (hb hby own_dmethod_5_code_230) (XS.aloadN S192.here hx rfl (hb hby own_dmethod_5_code_231) rfl rfl (XS.iconst S192.here hx rfl (hb hby own_dmethod_5_code_232) q)))) ?_
  show G T192 (mkF m 233 #[rv b, iv 6] [(.int 5), (.ref b), (.int 5), (.ref x181), (.ref x181), (.ref x178), (.ref x178)])
  have V193 := J192.arv V191 (ninS (Nat.ne_of_lt (Nat.lt_of_lt_of_le (Nat.lt_of_lt_of_le A_b.lt J178.1.1) (Nat.le_of_eq g_x181.symm))) nin0)
  refine Own.Sit.caload hG S192 hx V193 ⟨by decide, by decide⟩ rfl rfl rfl (hb hby own_dmethod_5_code_233) ?_
  show G T192 (mkF m 234 #[rv b, iv 6] [(.int c5), (.int 5), (.ref x181), (.ref x181), (.ref x178), (.ref x178)])
  refine Own.Sit.stC hG S192 hx V192 ga_x181 ⟨by decide, by decide⟩ 5 rfl (Nat.le_of_ble_eq_true rfl) rfl rfl (hb hby own_dmethod_5_code_234) (fun T194 h194 S194 J194 (V194 : Arv Z h194 x181 k181 .char (6 : Int32) [(.int c0), (.int c1), (.int c2), (.int c3), (.int c4), (.int (nar .char c5))] (.int 0)) => ?_)
  rw [own_nar r_c5] at V194
  show G T194 (mkF m 235 #[rv b, iv 6] [(.ref x181), (.ref x178), (.ref x178)])
  have J195 : Own.Stp Z consts_1 vm0 h178 vm0 h184 [] := Own.Stp.trans J181 J184 (all0) (allS (Or.inr (Nat.le_of_eq g_x181.symm)) all0)
  have J196 : Own.Stp Z consts_1 vm0 h178 vm0 h186 [] := Own.Stp.trans J195 J186 (all0) (allS (Or.inr (Nat.le_of_eq g_x181.symm)) all0)
  have J197 : Own.Stp Z consts_1 vm0 h178 vm0 h188 [] := Own.Stp.trans J196 J188 (all0) (allS (Or.inr (Nat.le_of_eq g_x181.symm)) all0)
  have J198 : Own.Stp Z consts_1 vm0 h178 vm0 h190 [] := Own.Stp.trans J197 J190 (all0) (allS (Or.inr (Nat.le_of_eq g_x181.symm)) all0)
  have J199 : Own.Stp Z consts_1 vm0 h178 vm0 h192 [] := Own.Stp.trans J198 J192 (all0) (allS (Or.inr (Nat.le_of_eq g_x181.symm)) all0)
  have J200 : Own.Stp Z consts_1 vm0 h178 vm0 h194 [] := Own.Stp.trans J199 J194 (all0) (allS (Or.inr (Nat.le_of_eq g_x181.symm)) all0)
  have E201 := J200.exa E178
  have F202 := J200.fld F180 nin0
  have F203 := J200.fld F179 nin0
  have Sf204 := J200.safe lt_x178 Sf178
  have hp205 : ∀ c ∈ ([c0, c1, c2, c3, c4, c5] : List Int32), ¬ c < 0 ∧ ¬ (255 : Int32) < c := by
    intro c hc
    simp only [List.mem_cons, List.not_mem_nil, or_false] at hc
    rcases hc with rfl | rfl | rfl | rfl | rfl | rfl
    · exact r_c0
    · exact r_c1
    · exact r_c2
    · exact r_c3
    · exact r_c4
    · exact r_c5
  refine Own.Sit.newStr hG S194 hx hWs hCm (hW 13 _ rfl) (hW 15 _ rfl) (hW 16 _ rfl) (cs := ([c0, c1, c2, c3, c4, c5] : List Int32)) ga_x178 Sf204 E201 F202 F203 V194 rfl (Nat.le_of_ble_eq_true rfl) (Nat.le_of_ble_eq_true rfl) hp205 (nn := 6) (Nat.le_of_ble_eq_true rfl) rfl (hz _ rfl) (rest := [(.ref x178)]) rfl (W := 1) (by show 2 * 0 + _ ≤ _; exact Nat.le_of_eq rfl) (hb hby own_dmethod_5_code_235) (by decide) (by decide) (by decide) (by decide) (fun T206 h206 y206 S206 J206 u206 St206 => ?_)
  show G T206 (mkF m 238 #[rv b, iv 6] [(.ref x178)])
  have J207 : Own.Stp Z consts_1 vm0 h0 vm0 h184 [] := Own.Stp.trans J182 J184 (all0) (allS (Or.inr (Nat.le_trans J178.1.1 (Nat.le_of_eq g_x181.symm))) all0)
  have J208 : Own.Stp Z consts_1 vm0 h0 vm0 h186 [] := Own.Stp.trans J207 J186 (all0) (allS (Or.inr (Nat.le_trans J178.1.1 (Nat.le_of_eq g_x181.symm))) all0)
  have J209 : Own.Stp Z consts_1 vm0 h0 vm0 h188 [] := Own.Stp.trans J208 J188 (all0) (allS (Or.inr (Nat.le_trans J178.1.1 (Nat.le_of_eq g_x181.symm))) all0)
  have J210 : Own.Stp Z consts_1 vm0 h0 vm0 h190 [] := Own.Stp.trans J209 J190 (all0) (allS (Or.inr (Nat.le_trans J178.1.1 (Nat.le_of_eq g_x181.symm))) all0)
  have J211 : Own.Stp Z consts_1 vm0 h0 vm0 h192 [] := Own.Stp.trans J210 J192 (all0) (allS (Or.inr (Nat.le_trans J178.1.1 (Nat.le_of_eq g_x181.symm))) all0)
  have J212 : Own.Stp Z consts_1 vm0 h0 vm0 h194 [] := Own.Stp.trans J211 J194 (all0) (allS (Or.inr (Nat.le_trans J178.1.1 (Nat.le_of_eq g_x181.symm))) all0)
  have J213 : Own.Stp Z consts_1 vm0 h0 vm0 h206 [] := Own.Stp.trans J212 J206 (all0) (allS (Or.inr (Nat.le_of_eq g_x178.symm)) all0)
  exact Own.Sit.retO hR S206 hx hret rfl (Or.inr (Or.inr (Or.inr (Or.inr ⟨rfl, rfl, rfl⟩)))) (hb hby own_dmethod_5_code_238) (by decide) (by decide) ⟨J213.1, x178, _, rfl, St206, (Nat.le_of_eq g_x178.symm)⟩
theorem own_dmethod_5_code_239 : decode method_5_code 239 = .ok (.new 39, 3) := by decide +kernel
theorem own_dmethod_5_code_242 : decode method_5_code 242 = .ok (.dup, 1) := by decide +kernel
theorem own_dmethod_5_code_243 : decode method_5_code 243 = .ok (.bipush 7, 2) := by decide +kernel
theorem own_dmethod_5_code_245 : decode method_5_code 245 = .ok (.newarray .char, 2) := by decide +kernel
theorem own_dmethod_5_code_247 : decode method_5_code 247 = .ok (.dup, 1) := by decide +kernel
theorem own_dmethod_5_code_248 : decode method_5_code 248 = .ok (.iconst 0, 1) := by decide +kernel
theorem own_dmethod_5_code_249 : decode method_5_code 249 = .ok (.aload_n 0, 1) := by decide +kernel
theorem own_dmethod_5_code_250 : decode method_5_code 250 = .ok (.iconst 0, 1) := by decide +kernel
theorem own_dmethod_5_code_251 : decode method_5_code 251 = .ok (.caload, 1) := by decide +kernel
theorem own_dmethod_5_code_252 : decode method_5_code 252 = .ok (.castore, 1) := by decide +kernel
theorem own_dmethod_5_code_253 : decode method_5_code 253 = .ok (.dup, 1) := by decide +kernel
theorem own_dmethod_5_code_254 : decode method_5_code 254 = .ok (.iconst 1, 1) := by decide +kernel
theorem own_dmethod_5_code_255 : decode method_5_code 255 = .ok (.aload_n 0, 1) := by decide +kernel
theorem own_dmethod_5_code_256 : decode method_5_code 256 = .ok (.iconst 1, 1) := by decide +kernel
theorem own_dmethod_5_code_257 : decode method_5_code 257 = .ok (.caload, 1) := by decide +kernel
theorem own_dmethod_5_code_258 : decode method_5_code 258 = .ok (.castore, 1) := by decide +kernel
theorem own_dmethod_5_code_259 : decode method_5_code 259 = .ok (.dup, 1) := by decide +kernel
theorem own_dmethod_5_code_260 : decode method_5_code 260 = .ok (.iconst 2, 1) := by decide +kernel
theorem own_dmethod_5_code_261 : decode method_5_code 261 = .ok (.aload_n 0, 1) := by decide +kernel
theorem own_dmethod_5_code_262 : decode method_5_code 262 = .ok (.iconst 2, 1) := by decide +kernel
theorem own_dmethod_5_code_263 : decode method_5_code 263 = .ok (.caload, 1) := by decide +kernel
theorem own_dmethod_5_code_264 : decode method_5_code 264 = .ok (.castore, 1) := by decide +kernel
theorem own_dmethod_5_code_265 : decode method_5_code 265 = .ok (.dup, 1) := by decide +kernel
theorem own_dmethod_5_code_266 : decode method_5_code 266 = .ok (.iconst 3, 1) := by decide +kernel
theorem own_dmethod_5_code_267 : decode method_5_code 267 = .ok (.aload_n 0, 1) := by decide +kernel
theorem own_dmethod_5_code_268 : decode method_5_code 268 = .ok (.iconst 3, 1) := by decide +kernel
theorem own_dmethod_5_code_269 : decode method_5_code 269 = .ok (.caload, 1) := by decide +kernel
theorem own_dmethod_5_code_270 : decode method_5_code 270 = .ok (.castore, 1) := by decide +kernel
theorem own_dmethod_5_code_271 : decode method_5_code 271 = .ok (.dup, 1) := by decide +kernel
theorem own_dmethod_5_code_272 : decode method_5_code 272 = .ok (.iconst 4, 1) := by decide +kernel
theorem own_dmethod_5_code_273 : decode method_5_code 273 = .ok (.aload_n 0, 1) := by decide +kernel
theorem own_dmethod_5_code_274 : decode method_5_code 274 = .ok (.iconst 4, 1) := by decide +kernel
theorem own_dmethod_5_code_275 : decode method_5_code 275 = .ok (.caload, 1) := by decide +kernel
theorem own_dmethod_5_code_276 : decode method_5_code 276 = .ok (.castore, 1) := by decide +kernel
theorem own_dmethod_5_code_277 : decode method_5_code 277 = .ok (.dup, 1) := by decide +kernel
theorem own_dmethod_5_code_278 : decode method_5_code 278 = .ok (.iconst 5, 1) := by decide +kernel
theorem own_dmethod_5_code_279 : decode method_5_code 279 = .ok (.aload_n 0, 1) := by decide +kernel
theorem own_dmethod_5_code_280 : decode method_5_code 280 = .ok (.iconst 5, 1) := by decide +kernel
theorem own_dmethod_5_code_281 : decode method_5_code 281 = .ok (.caload, 1) := by decide +kernel
theorem own_dmethod_5_code_282 : decode method_5_code 282 = .ok (.castore, 1) := by decide +kernel
theorem own_dmethod_5_code_283 : decode method_5_code 283 = .ok (.dup, 1) := by decide +kernel
theorem own_dmethod_5_code_284 : decode method_5_code 284 = .ok (.bipush 6, 2) := by decide +kernel
theorem own_dmethod_5_code_286 : decode method_5_code 286 = .ok (.aload_n 0, 1) := by decide +kernel
theorem own_dmethod_5_code_287 : decode method_5_code 287 = .ok (.bipush 6, 2) := by decide +kernel
theorem own_dmethod_5_code_289 : decode method_5_code 289 = .ok (.caload, 1) := by decide +kernel
theorem own_dmethod_5_code_290 : decode method_5_code 290 = .ok (.castore, 1) := by decide +kernel
theorem own_dmethod_5_code_291 : decode method_5_code 291 = .ok (.invokespecial 50, 3) := by decide +kernel
theorem own_dmethod_5_code_294 : decode method_5_code 294 = .ok (.areturn, 1) := by decide +kernel
theorem own_ef_own_str7 (m : MethodId) (b : Addr) : entryFrame m #[(.ref b), (.int 7)] 2 = mkF m 0 #[rv b, iv 7] [] := by first | (simp [entryFrame, mkF, argsToLocals, Value.category]; done) | rfl
set_option maxRecDepth 65536 in
set_option maxHeartbeats 40000000 in
theorem own_str7 (l : Launch) (Z : State) (a0 : Array Value) (H : own_Wld Z a0) {cw : List Jvm.Cond} (b : Addr) (c0 : Int32) (c1 : Int32) (c2 : Int32) (c3 : Int32) (c4 : Int32) (c5 : Int32) (c6 : Int32) (c7 : Int32) (h0 : Heap) (O0 : Ext Z.heap h0) {kb : ClassId} {dv : Value} (A_b : Arv Z h0 b kb .char (8 : Int32) [(.int c0), (.int c1), (.int c2), (.int c3), (.int c4), (.int c5), (.int c6), (.int c7)] dv) (r_c0 : ¬ c0 < 0 ∧ ¬ (255 : Int32) < c0) (r_c1 : ¬ c1 < 0 ∧ ¬ (255 : Int32) < c1) (r_c2 : ¬ c2 < 0 ∧ ¬ (255 : Int32) < c2) (r_c3 : ¬ c3 < 0 ∧ ¬ (255 : Int32) < c3) (r_c4 : ¬ c4 < 0 ∧ ¬ (255 : Int32) < c4) (r_c5 : ¬ c5 < 0 ∧ ¬ (255 : Int32) < c5) (r_c6 : ¬ c6 < 0 ∧ ¬ (255 : Int32) < c6) (r_c7 : ¬ c7 < 0 ∧ ¬ (255 : Int32) < c7) :
    Own.Con l Z consts_1 (⟨"com/example/lorac/lorac/OperationNamedPinLaw", "str", "([CI)Ljava/lang/String;"⟩ : MethodName) method_5_code 2 (some (.object "java/lang/String")) cw ({ frames := 4, cells := 3, slots := 18, locals := 66 } : Room) #[(.ref b), (.int 7)] h0 (fun v h => Keep h0 h [] ∧ ∃ x t, v = some (.ref x) ∧ Own.Str Z h x t ([c0, c1, c2, c3, c4, c5, c6] : List Int32) ∧ h0.size ≤ x) := by
  have hw := H.1
  have hW := fun (i : Nat) (w : Jvm.Cond) (e : tables_1[i]? = some w) => hw w (List.mem_of_getElem? e)
  have hCm := H.2.1
  have hSi := H.2.2.1
  have hEL := H.2.2.2
  have hWs : ∀ d ∈ StrChars.Road.words, d.before a0 Z = true := fun d hd => hw d (own_wbackV d hd)
  have hWc : ∀ d ∈ StrChars.Road.wordsChN, d.before a0 Z = true := fun d hd => hw d (own_wchN d hd)
  have hWe : ∀ d ∈ StrChars.Road.wordsEq, d.before a0 Z = true := fun d hd => hw d (own_weqW d hd)
  have hSA : ∀ d ∈ Bundle.stringAtoms, d.before a0 Z = true := fun d hd => hw d (own_wSA d hd)
  refine Own.Con.of own_pn453927 hEL O0 ?_
  intro p e s m below meth c T0 G vm0 hx hby hml hret hnm hG hR S0
  have hz : ∀ L : Array Slot, L.size = 2 → L.size = c.maxLocals := fun L q => q.trans hml.symm
  rw [own_ef_own_str7]
  show G T0 (mkF m 0 #[rv b, iv 7] [])
  refine hG.st (fun t q => XS.iloadN S0.here hx rfl (hb hby own_dmethod_5_code_0) rfl (XS.ifYes S0.here hx rfl (pc0 := 1) (pc' := 15) rfl (hb hby own_dmethod_5_code_1) rfl ((if0 _ _).trans (feq (by decide : ¬ ((7 : Int32) = (0 : Int32)))).2) (by decide) (by decide) (XS.iloadN S0.here hx rfl (hb hby own_dmethod_5_code_15) rfl (XS.iconst S0.here hx rfl (hb hby own_dmethod_5_code_16) (XS.icmpYes S0.here hx rfl (pc0 := 17) (pc' := 37) rfl (hb hby own_dmethod_5_code_17) rfl (feq (by decide : ¬ ((7 : Int32) = (1 : Int32)))).2 (by decide) (by decide) (XS.iloadN S0.here hx rfl (hb hby own_dmethod_5_code_37) rfl q)))))) ?_
  show G T0 (mkF m 38 #[rv b, iv 7] [(.int 7)])
  refine hG.st (fun t q => XS.iconst S0.here hx rfl (hb hby own_dmethod_5_code_38) (XS.icmpYes S0.here hx rfl (pc0 := 39) (pc' := 65) rfl (hb hby own_dmethod_5_code_39) rfl (feq (by decide : ¬ ((7 : Int32) = (2 : Int32)))).2 (by decide) (by decide) (XS.iloadN S0.here hx rfl (hb hby own_dmethod_5_code_65) rfl (XS.iconst S0.here hx rfl (hb hby own_dmethod_5_code_66) (XS.icmpYes S0.here hx rfl (pc0 := 67) (pc' := 99) rfl (hb hby own_dmethod_5_code_67) rfl (feq (by decide : ¬ ((7 : Int32) = (3 : Int32)))).2 (by decide) (by decide) (XS.iloadN S0.here hx rfl (hb hby own_dmethod_5_code_99) rfl q)))))) ?_
  show G T0 (mkF m 100 #[rv b, iv 7] [(.int 7)])
  refine hG.st (fun t q => XS.iconst S0.here hx rfl (hb hby own_dmethod_5_code_100) (XS.icmpYes S0.here hx rfl (pc0 := 101) (pc' := 139) rfl (hb hby own_dmethod_5_code_101) rfl (feq (by decide : ¬ ((7 : Int32) = (4 : Int32)))).2 (by decide) (by decide) (XS.iloadN S0.here hx rfl (hb hby own_dmethod_5_code_139) rfl (XS.iconst S0.here hx rfl (hb hby own_dmethod_5_code_140) (XS.icmpYes S0.here hx rfl (pc0 := 141) (pc' := 185) rfl (hb hby own_dmethod_5_code_141) rfl (feq (by decide : ¬ ((7 : Int32) = (5 : Int32)))).2 (by decide) (by decide) (XS.iloadN S0.here hx rfl (hb hby own_dmethod_5_code_185) rfl q)))))) ?_
  show G T0 (mkF m 186 #[rv b, iv 7] [(.int 7)])
  refine hG.st (fun t q => XS.bipush S0.here hx rfl (hb hby own_dmethod_5_code_186) (XS.icmpYes S0.here hx rfl (pc0 := 188) (pc' := 239) rfl (hb hby own_dmethod_5_code_188) rfl (feq (by decide : ¬ ((7 : Int32) = (6 : Int32)))).2 (by decide) (by decide) q)) ?_
  show G T0 (mkF m 239 #[rv b, iv 7] [])
  refine Own.Sit.newO hG S0 hx (hW 12 _ rfl) (hW 13 _ rfl) (hW 14 _ rfl) rfl (hb hby own_dmethod_5_code_239) (by decide) (by decide) (fun T214 h214 x214 g_x214 S214 J214 Sf214 E214 D214 => ?_)
  have lt_x214 := E214.lt
  have ga_x214 : Z.heap.size ≤ x214 := Nat.le_trans S0.le (Nat.le_of_eq g_x214.symm)
  have F215 : Fld Z h214 x214 "java/lang/String" "coder" "B" (.int 0) := D214 (Or.inr (hW 38 _ rfl)) (ty := .byte) (by decide)
  have F216 : Fld Z h214 x214 "java/lang/String" "value" "[B" .null := D214 (Or.inr (hW 40 _ rfl)) (ty := (.array .byte)) (by decide)
  show G T214 (mkF m 242 #[rv b, iv 7] [(.ref x214)])
  refine hG.st (fun t q => XS.dup S214.here hx rfl (hb hby own_dmethod_5_code_242) rfl rfl (XS.bipush S214.here hx rfl (hb hby own_dmethod_5_code_243) q)) ?_
  show G T214 (mkF m 245 #[rv b, iv 7] [(.int 7), (.ref x214), (.ref x214)])
  refine Own.Sit.newP hG S214 hx (aty := .char) (hW 0 _ rfl) rfl (hb hby own_dmethod_5_code_245) rfl (by decide) (cap := 7) (by decide) (by decide) (by decide) (by decide) (fun T217 h217 x217 k217 g_x217 S217 J217 Sf217 (V217 : Arv Z h217 x217 k217 .char (7 : Int32) [(.int 0), (.int 0), (.int 0), (.int 0), (.int 0), (.int 0), (.int 0)] (.int 0)) => ?_)
  have lt_x217 := V217.lt
  have ga_x217 : Z.heap.size ≤ x217 := Nat.le_trans S214.le (Nat.le_of_eq g_x217.symm)
  show G T217 (mkF m 247 #[rv b, iv 7] [(.ref x217), (.ref x214), (.ref x214)])
  refine hG.st (fun t q => XS.dup S217.here hx rfl (hb hby own_dmethod_5_code_247) rfl rfl (XS.iconst S217.here hx rfl (hb hby own_dmethod_5_code_248) (XS.aloadN S217.here hx rfl (hb hby own_dmethod_5_code_249) rfl rfl (XS.iconst S217.here hx rfl (hb hby own_dmethod_5_code_250) q)))) ?_
  show G T217 (mkF m 251 #[rv b, iv 7] [(.int 0), (.ref b), (.int 0), (.ref x217), (.ref x217), (.ref x214), (.ref x214)])
  have J218 : Own.Stp Z consts_1 vm0 h0 vm0 h217 [] := Own.Stp.trans J214 J217 (all0) all0
  have V219 := J218.arv A_b nin0
  refine Own.Sit.caload hG S217 hx V219 ⟨by decide, by decide⟩ rfl rfl rfl (hb hby own_dmethod_5_code_251) ?_
  show G T217 (mkF m 252 #[rv b, iv 7] [(.int c0), (.int 0), (.ref x217), (.ref x217), (.ref x214), (.ref x214)])
  refine Own.Sit.stC hG S217 hx V217 ga_x217 ⟨by decide, by decide⟩ 0 rfl (Nat.le_of_ble_eq_true rfl) rfl rfl (hb hby own_dmethod_5_code_252) (fun T220 h220 S220 J220 (V220 : Arv Z h220 x217 k217 .char (7 : Int32) [(.int (nar .char c0)), (.int 0), (.int 0), (.int 0), (.int 0), (.int 0), (.int 0)] (.int 0)) => ?_)
  rw [own_nar r_c0] at V220
  show G T220 (mkF m 253 #[rv b, iv 7] [(.ref x217), (.ref x214), (.ref x214)])
  refine hG.st (fun t q => XS.dup S220.here hx rfl (hb hby own_dmethod_5_code_253) rfl rfl (XS.iconst S220.here hx rfl (hb hby own_dmethod_5_code_254) (XS.aloadN S220.here hx rfl (hb hby own_dmethod_5_code_255) rfl rfl (XS.iconst S220.here hx rfl (hb hby own_dmethod_5_code_256) q)))) ?_
  show G T220 (mkF m 257 #[rv b, iv 7] [(.int 1), (.ref b), (.int 1), (.ref x217), (.ref x217), (.ref x214), (.ref x214)])
  have V221 := J220.arv V219 (ninS (Nat.ne_of_lt (Nat.lt_of_lt_of_le (Nat.lt_of_lt_of_le A_b.lt J214.1.1) (Nat.le_of_eq g_x217.symm))) nin0)
  refine Own.Sit.caload hG S220 hx V221 ⟨by decide, by decide⟩ rfl rfl rfl (hb hby own_dmethod_5_code_257) ?_
  show G T220 (mkF m 258 #[rv b, iv 7] [(.int c1), (.int 1), (.ref x217), (.ref x217), (.ref x214), (.ref x214)])
  refine Own.Sit.stC hG S220 hx V220 ga_x217 ⟨by decide, by decide⟩ 1 rfl (Nat.le_of_ble_eq_true rfl) rfl rfl (hb hby own_dmethod_5_code_258) (fun T222 h222 S222 J222 (V222 : Arv Z h222 x217 k217 .char (7 : Int32) [(.int c0), (.int (nar .char c1)), (.int 0), (.int 0), (.int 0), (.int 0), (.int 0)] (.int 0)) => ?_)
  rw [own_nar r_c1] at V222
  show G T222 (mkF m 259 #[rv b, iv 7] [(.ref x217), (.ref x214), (.ref x214)])
  refine hG.st (fun t q => XS.dup S222.here hx rfl (hb hby own_dmethod_5_code_259) rfl rfl (XS.iconst S222.here hx rfl (hb hby own_dmethod_5_code_260) (XS.aloadN S222.here hx rfl (hb hby own_dmethod_5_code_261) rfl rfl (XS.iconst S222.here hx rfl (hb hby own_dmethod_5_code_262) q)))) ?_
  show G T222 (mkF m 263 #[rv b, iv 7] [(.int 2), (.ref b), (.int 2), (.ref x217), (.ref x217), (.ref x214), (.ref x214)])
  have V223 := J222.arv V221 (ninS (Nat.ne_of_lt (Nat.lt_of_lt_of_le (Nat.lt_of_lt_of_le A_b.lt J214.1.1) (Nat.le_of_eq g_x217.symm))) nin0)
  refine Own.Sit.caload hG S222 hx V223 ⟨by decide, by decide⟩ rfl rfl rfl (hb hby own_dmethod_5_code_263) ?_
  show G T222 (mkF m 264 #[rv b, iv 7] [(.int c2), (.int 2), (.ref x217), (.ref x217), (.ref x214), (.ref x214)])
  refine Own.Sit.stC hG S222 hx V222 ga_x217 ⟨by decide, by decide⟩ 2 rfl (Nat.le_of_ble_eq_true rfl) rfl rfl (hb hby own_dmethod_5_code_264) (fun T224 h224 S224 J224 (V224 : Arv Z h224 x217 k217 .char (7 : Int32) [(.int c0), (.int c1), (.int (nar .char c2)), (.int 0), (.int 0), (.int 0), (.int 0)] (.int 0)) => ?_)
  rw [own_nar r_c2] at V224
  show G T224 (mkF m 265 #[rv b, iv 7] [(.ref x217), (.ref x214), (.ref x214)])
  refine hG.st (fun t q => XS.dup S224.here hx rfl (hb hby own_dmethod_5_code_265) rfl rfl (XS.iconst S224.here hx rfl (hb hby own_dmethod_5_code_266) (XS.aloadN S224.here hx rfl (hb hby own_dmethod_5_code_267) rfl rfl (XS.iconst S224.here hx rfl (hb hby own_dmethod_5_code_268) q)))) ?_
  show G T224 (mkF m 269 #[rv b, iv 7] [(.int 3), (.ref b), (.int 3), (.ref x217), (.ref x217), (.ref x214), (.ref x214)])
  have V225 := J224.arv V223 (ninS (Nat.ne_of_lt (Nat.lt_of_lt_of_le (Nat.lt_of_lt_of_le A_b.lt J214.1.1) (Nat.le_of_eq g_x217.symm))) nin0)
  refine Own.Sit.caload hG S224 hx V225 ⟨by decide, by decide⟩ rfl rfl rfl (hb hby own_dmethod_5_code_269) ?_
  show G T224 (mkF m 270 #[rv b, iv 7] [(.int c3), (.int 3), (.ref x217), (.ref x217), (.ref x214), (.ref x214)])
  refine Own.Sit.stC hG S224 hx V224 ga_x217 ⟨by decide, by decide⟩ 3 rfl (Nat.le_of_ble_eq_true rfl) rfl rfl (hb hby own_dmethod_5_code_270) (fun T226 h226 S226 J226 (V226 : Arv Z h226 x217 k217 .char (7 : Int32) [(.int c0), (.int c1), (.int c2), (.int (nar .char c3)), (.int 0), (.int 0), (.int 0)] (.int 0)) => ?_)
  rw [own_nar r_c3] at V226
  show G T226 (mkF m 271 #[rv b, iv 7] [(.ref x217), (.ref x214), (.ref x214)])
  refine hG.st (fun t q => XS.dup S226.here hx rfl (hb hby own_dmethod_5_code_271) rfl rfl (XS.iconst S226.here hx rfl (hb hby own_dmethod_5_code_272) (XS.aloadN S226.here hx rfl (hb hby own_dmethod_5_code_273) rfl rfl (XS.iconst S226.here hx rfl (hb hby own_dmethod_5_code_274) q)))) ?_
  show G T226 (mkF m 275 #[rv b, iv 7] [(.int 4), (.ref b), (.int 4), (.ref x217), (.ref x217), (.ref x214), (.ref x214)])
  have V227 := J226.arv V225 (ninS (Nat.ne_of_lt (Nat.lt_of_lt_of_le (Nat.lt_of_lt_of_le A_b.lt J214.1.1) (Nat.le_of_eq g_x217.symm))) nin0)
  refine Own.Sit.caload hG S226 hx V227 ⟨by decide, by decide⟩ rfl rfl rfl (hb hby own_dmethod_5_code_275) ?_
  show G T226 (mkF m 276 #[rv b, iv 7] [(.int c4), (.int 4), (.ref x217), (.ref x217), (.ref x214), (.ref x214)])
  refine Own.Sit.stC hG S226 hx V226 ga_x217 ⟨by decide, by decide⟩ 4 rfl (Nat.le_of_ble_eq_true rfl) rfl rfl (hb hby own_dmethod_5_code_276) (fun T228 h228 S228 J228 (V228 : Arv Z h228 x217 k217 .char (7 : Int32) [(.int c0), (.int c1), (.int c2), (.int c3), (.int (nar .char c4)), (.int 0), (.int 0)] (.int 0)) => ?_)
  rw [own_nar r_c4] at V228
  show G T228 (mkF m 277 #[rv b, iv 7] [(.ref x217), (.ref x214), (.ref x214)])
  refine hG.st (fun t q => XS.dup S228.here hx rfl (hb hby own_dmethod_5_code_277) rfl rfl (XS.iconst S228.here hx rfl (hb hby own_dmethod_5_code_278) (XS.aloadN S228.here hx rfl (hb hby own_dmethod_5_code_279) rfl rfl (XS.iconst S228.here hx rfl (hb hby own_dmethod_5_code_280) q)))) ?_
  show G T228 (mkF m 281 #[rv b, iv 7] [(.int 5), (.ref b), (.int 5), (.ref x217), (.ref x217), (.ref x214), (.ref x214)])
  have V229 := J228.arv V227 (ninS (Nat.ne_of_lt (Nat.lt_of_lt_of_le (Nat.lt_of_lt_of_le A_b.lt J214.1.1) (Nat.le_of_eq g_x217.symm))) nin0)
  refine Own.Sit.caload hG S228 hx V229 ⟨by decide, by decide⟩ rfl rfl rfl (hb hby own_dmethod_5_code_281) ?_
  show G T228 (mkF m 282 #[rv b, iv 7] [(.int c5), (.int 5), (.ref x217), (.ref x217), (.ref x214), (.ref x214)])
  refine Own.Sit.stC hG S228 hx V228 ga_x217 ⟨by decide, by decide⟩ 5 rfl (Nat.le_of_ble_eq_true rfl) rfl rfl (hb hby own_dmethod_5_code_282) (fun T230 h230 S230 J230 (V230 : Arv Z h230 x217 k217 .char (7 : Int32) [(.int c0), (.int c1), (.int c2), (.int c3), (.int c4), (.int (nar .char c5)), (.int 0)] (.int 0)) => ?_)
  rw [own_nar r_c5] at V230
  show G T230 (mkF m 283 #[rv b, iv 7] [(.ref x217), (.ref x214), (.ref x214)])
  refine hG.st (fun t q => XS.dup S230.here hx rfl (hb hby own_dmethod_5_code_283) rfl rfl (XS.bipush S230.here hx rfl (hb hby own_dmethod_5_code_284) (XS.aloadN S230.here hx rfl (hb hby own_dmethod_5_code_286) rfl rfl (XS.bipush S230.here hx rfl (hb hby own_dmethod_5_code_287) q)))) ?_
  show G T230 (mkF m 289 #[rv b, iv 7] [(.int 6), (.ref b), (.int 6), (.ref x217), (.ref x217), (.ref x214), (.ref x214)])
  have V231 := J230.arv V229 (ninS (Nat.ne_of_lt (Nat.lt_of_lt_of_le (Nat.lt_of_lt_of_le A_b.lt J214.1.1) (Nat.le_of_eq g_x217.symm))) nin0)
  refine Own.Sit.caload hG S230 hx V231 ⟨by decide, by decide⟩ rfl rfl rfl (hb hby own_dmethod_5_code_289) ?_
  show G T230 (mkF m 290 #[rv b, iv 7] [(.int c6), (.int 6), (.ref x217), (.ref x217), (.ref x214), (.ref x214)])
  refine Own.Sit.stC hG S230 hx V230 ga_x217 ⟨by decide, by decide⟩ 6 rfl (Nat.le_of_ble_eq_true rfl) rfl rfl (hb hby own_dmethod_5_code_290) (fun T232 h232 S232 J232 (V232 : Arv Z h232 x217 k217 .char (7 : Int32) [(.int c0), (.int c1), (.int c2), (.int c3), (.int c4), (.int c5), (.int (nar .char c6))] (.int 0)) => ?_)
  rw [own_nar r_c6] at V232
  show G T232 (mkF m 291 #[rv b, iv 7] [(.ref x217), (.ref x214), (.ref x214)])
  have J233 : Own.Stp Z consts_1 vm0 h214 vm0 h220 [] := Own.Stp.trans J217 J220 (all0) (allS (Or.inr (Nat.le_of_eq g_x217.symm)) all0)
  have J234 : Own.Stp Z consts_1 vm0 h214 vm0 h222 [] := Own.Stp.trans J233 J222 (all0) (allS (Or.inr (Nat.le_of_eq g_x217.symm)) all0)
  have J235 : Own.Stp Z consts_1 vm0 h214 vm0 h224 [] := Own.Stp.trans J234 J224 (all0) (allS (Or.inr (Nat.le_of_eq g_x217.symm)) all0)
  have J236 : Own.Stp Z consts_1 vm0 h214 vm0 h226 [] := Own.Stp.trans J235 J226 (all0) (allS (Or.inr (Nat.le_of_eq g_x217.symm)) all0)
  have J237 : Own.Stp Z consts_1 vm0 h214 vm0 h228 [] := Own.Stp.trans J236 J228 (all0) (allS (Or.inr (Nat.le_of_eq g_x217.symm)) all0)
  have J238 : Own.Stp Z consts_1 vm0 h214 vm0 h230 [] := Own.Stp.trans J237 J230 (all0) (allS (Or.inr (Nat.le_of_eq g_x217.symm)) all0)
  have J239 : Own.Stp Z consts_1 vm0 h214 vm0 h232 [] := Own.Stp.trans J238 J232 (all0) (allS (Or.inr (Nat.le_of_eq g_x217.symm)) all0)
  have E240 := J239.exa E214
  have F241 := J239.fld F216 nin0
  have F242 := J239.fld F215 nin0
  have Sf243 := J239.safe lt_x214 Sf214
  have hp244 : ∀ c ∈ ([c0, c1, c2, c3, c4, c5, c6] : List Int32), ¬ c < 0 ∧ ¬ (255 : Int32) < c := by
    intro c hc
    simp only [List.mem_cons, List.not_mem_nil, or_false] at hc
    rcases hc with rfl | rfl | rfl | rfl | rfl | rfl | rfl
    · exact r_c0
    · exact r_c1
    · exact r_c2
    · exact r_c3
    · exact r_c4
    · exact r_c5
    · exact r_c6
  refine Own.Sit.newStr hG S232 hx hWs hCm (hW 13 _ rfl) (hW 15 _ rfl) (hW 16 _ rfl) (cs := ([c0, c1, c2, c3, c4, c5, c6] : List Int32)) ga_x214 Sf243 E240 F241 F242 V232 rfl (Nat.le_of_ble_eq_true rfl) (Nat.le_of_ble_eq_true rfl) hp244 (nn := 7) (Nat.le_of_ble_eq_true rfl) rfl (hz _ rfl) (rest := [(.ref x214)]) rfl (W := 1) (by show 2 * 0 + _ ≤ _; exact Nat.le_of_eq rfl) (hb hby own_dmethod_5_code_291) (by decide) (by decide) (by decide) (by decide) (fun T245 h245 y245 S245 J245 u245 St245 => ?_)
  show G T245 (mkF m 294 #[rv b, iv 7] [(.ref x214)])
  have J246 : Own.Stp Z consts_1 vm0 h0 vm0 h220 [] := Own.Stp.trans J218 J220 (all0) (allS (Or.inr (Nat.le_trans J214.1.1 (Nat.le_of_eq g_x217.symm))) all0)
  have J247 : Own.Stp Z consts_1 vm0 h0 vm0 h222 [] := Own.Stp.trans J246 J222 (all0) (allS (Or.inr (Nat.le_trans J214.1.1 (Nat.le_of_eq g_x217.symm))) all0)
  have J248 : Own.Stp Z consts_1 vm0 h0 vm0 h224 [] := Own.Stp.trans J247 J224 (all0) (allS (Or.inr (Nat.le_trans J214.1.1 (Nat.le_of_eq g_x217.symm))) all0)
  have J249 : Own.Stp Z consts_1 vm0 h0 vm0 h226 [] := Own.Stp.trans J248 J226 (all0) (allS (Or.inr (Nat.le_trans J214.1.1 (Nat.le_of_eq g_x217.symm))) all0)
  have J250 : Own.Stp Z consts_1 vm0 h0 vm0 h228 [] := Own.Stp.trans J249 J228 (all0) (allS (Or.inr (Nat.le_trans J214.1.1 (Nat.le_of_eq g_x217.symm))) all0)
  have J251 : Own.Stp Z consts_1 vm0 h0 vm0 h230 [] := Own.Stp.trans J250 J230 (all0) (allS (Or.inr (Nat.le_trans J214.1.1 (Nat.le_of_eq g_x217.symm))) all0)
  have J252 : Own.Stp Z consts_1 vm0 h0 vm0 h232 [] := Own.Stp.trans J251 J232 (all0) (allS (Or.inr (Nat.le_trans J214.1.1 (Nat.le_of_eq g_x217.symm))) all0)
  have J253 : Own.Stp Z consts_1 vm0 h0 vm0 h245 [] := Own.Stp.trans J252 J245 (all0) (allS (Or.inr (Nat.le_of_eq g_x214.symm)) all0)
  exact Own.Sit.retO hR S245 hx hret rfl (Or.inr (Or.inr (Or.inr (Or.inr ⟨rfl, rfl, rfl⟩)))) (hb hby own_dmethod_5_code_294) (by decide) (by decide) ⟨J253.1, x214, _, rfl, St245, (Nat.le_of_eq g_x214.symm)⟩
theorem own_pn554047 : plainFor (⟨"com/example/lorac/lorac/Edit$Operation", "values", "()[Lcom/example/lorac/lorac/Edit$Operation;"⟩ : MethodName) = true := by first | exact plainFor_of_name (by first | (simp [plainName, overriddenIn]; done) | decide +kernel) | decide +kernel
theorem own_dprog_5_method_1_code_0 : decode prog_5_method_1_code 0 = .ok (.getstatic 10, 3) := by decide +kernel
theorem own_dprog_5_method_1_code_3 : decode prog_5_method_1_code 3 = .ok (.invokevirtual 14, 3) := by decide +kernel
theorem own_dprog_5_method_1_code_6 : decode prog_5_method_1_code 6 = .ok (.checkcast 15, 3) := by decide +kernel
theorem own_dprog_5_method_1_code_9 : decode prog_5_method_1_code 9 = .ok (.areturn, 1) := by decide +kernel
theorem own_ef_own_values (m : MethodId)  : entryFrame m #[] 0 = mkF m 0 #[] [] := by first | (simp [entryFrame, mkF, argsToLocals, Value.category]; done) | rfl
set_option maxRecDepth 65536 in
set_option maxHeartbeats 40000000 in
theorem own_values (l : Launch) (Z : State) (a0 : Array Value) (H : own_Wld Z a0) {cw : List Jvm.Cond}  {ka kd va sl tl sn tn em : Addr} {kc : ClassId} (N : own_En Z ka kd va sl tl sn tn em kc) (h0 : Heap) (O0 : Ext Z.heap h0) :
    Own.Con l Z consts_1 (⟨"com/example/lorac/lorac/Edit$Operation", "values", "()[Lcom/example/lorac/lorac/Edit$Operation;"⟩ : MethodName) prog_5_method_1_code 0 (some (.array (.object "com/example/lorac/lorac/Edit$Operation"))) cw ({ frames := 1, cells := 1, slots := 2, locals := 14 } : Room) #[] h0 (fun v h => Keep h0 h [] ∧ ∃ x, v = some (.ref x) ∧ h0.size ≤ x ∧ Arv Z h x kc (.object "com/example/lorac/lorac/Edit$Operation") (2 : Int32) [(.ref ka), (.ref kd)] .null) := by
  have hw := H.1
  have hW := fun (i : Nat) (w : Jvm.Cond) (e : tables_1[i]? = some w) => hw w (List.mem_of_getElem? e)
  have hCm := H.2.1
  have hSi := H.2.2.1
  have hEL := H.2.2.2
  have hWs : ∀ d ∈ StrChars.Road.words, d.before a0 Z = true := fun d hd => hw d (own_wbackV d hd)
  have hWc : ∀ d ∈ StrChars.Road.wordsChN, d.before a0 Z = true := fun d hd => hw d (own_wchN d hd)
  have hWe : ∀ d ∈ StrChars.Road.wordsEq, d.before a0 Z = true := fun d hd => hw d (own_weqW d hd)
  have hSA : ∀ d ∈ Bundle.stringAtoms, d.before a0 Z = true := fun d hd => hw d (own_wSA d hd)
  refine Own.Con.of own_pn554047 hEL O0 ?_
  intro p e s m below meth c T0 G vm0 hx hby hml hret hnm hG hR S0
  have hz : ∀ L : Array Slot, L.size = 0 → L.size = c.maxLocals := fun L q => q.trans hml.symm
  rw [own_ef_own_values]
  show G T0 (mkF m 0 #[] [])
  obtain ⟨Sl, Sn, Sv, Av, Ev, Ekl, Ekn, Fkl, Fkn, Sts, Stn, Se, Ee, Fe⟩ := id N
  refine Own.Sit.getS hG S0 hx (host := "") (Or.inl (hW 48 _ rfl)) Via.refl (Sv.ext S0.old) rfl (hb hby own_dprog_5_method_1_code_0) (fun T254 S254 => ?_)
  show G T254 (mkF m 3 #[] [(.ref va)])
  have V255 := Av.ext S254.old
  have E256 := Ev.ext S254.old
  refine Own.Sit.cloneA hG S254 hx (hW 50 _ rfl) (hW 51 _ rfl) (hW 55 _ rfl) (hW 53 _ rfl) (hW 54 _ rfl) (hW 56 _ rfl) V255 E256 rfl (hz _ rfl) (rest := []) rfl (hb hby own_dprog_5_method_1_code_3) (by decide) (W := 0) (cap := 2) (by show 2 * 0 + _ ≤ _; exact Nat.le_of_eq rfl) (by decide) (by decide) (by decide) (by decide) (fun T257 h257 x257 g_x257 S257 J257 V257 E257 => ?_)
  have lt_x257 := V257.lt
  have ga_x257 : Z.heap.size ≤ x257 := Nat.le_trans S254.le (Nat.le_of_eq g_x257.symm)
  show G T257 (mkF m 6 #[] [(.ref x257)])
  refine Own.Sit.castY hG S257 hx (hW 60 _ rfl) (Ins.self E257) rfl rfl (hb hby own_dprog_5_method_1_code_6) (fun T258 S258 => ?_)
  show G T258 (mkF m 9 #[] [(.ref x257)])
  exact Own.Sit.retO hR S258 hx hret rfl (Or.inr (Or.inr (Or.inr (Or.inr ⟨rfl, rfl, rfl⟩)))) (hb hby own_dprog_5_method_1_code_9) (by decide) (by decide) ⟨J257.1, x257, rfl, (Nat.le_of_eq g_x257.symm), V257⟩
theorem own_pn70a026 : plainFor (⟨"java/util/Optional", "empty", "()Ljava/util/Optional;"⟩ : MethodName) = true := by first | exact plainFor_of_name (by first | (simp [plainName, overriddenIn]; done) | decide +kernel) | decide +kernel
theorem own_djdk_32_method_1_code_0 : decode jdk_32_method_1_code 0 = .ok (.getstatic 1, 3) := by decide +kernel
theorem own_djdk_32_method_1_code_3 : decode jdk_32_method_1_code 3 = .ok (.astore_n 0, 1) := by decide +kernel
theorem own_djdk_32_method_1_code_4 : decode jdk_32_method_1_code 4 = .ok (.aload_n 0, 1) := by decide +kernel
theorem own_djdk_32_method_1_code_5 : decode jdk_32_method_1_code 5 = .ok (.areturn, 1) := by decide +kernel
theorem own_ef_own_empty (m : MethodId)  : entryFrame m #[] 1 = mkF m 0 #[.unset] [] := by first | (simp [entryFrame, mkF, argsToLocals, Value.category]; done) | rfl
set_option maxRecDepth 65536 in
set_option maxHeartbeats 40000000 in
theorem own_empty (l : Launch) (Z : State) (a0 : Array Value) (H : own_Wld Z a0) {cw : List Jvm.Cond}  {ka kd va sl tl sn tn em : Addr} {kc : ClassId} (N : own_En Z ka kd va sl tl sn tn em kc) (h0 : Heap) (O0 : Ext Z.heap h0) :
    Own.Con l Z consts_1 (⟨"java/util/Optional", "empty", "()Ljava/util/Optional;"⟩ : MethodName) jdk_32_method_1_code 1 (some (.object "java/util/Optional")) cw ({ frames := 0, cells := 0, slots := 0, locals := 0 } : Room) #[] h0 (fun v h => Keep h0 h [] ∧ v = some (.ref em)) := by
  have hw := H.1
  have hW := fun (i : Nat) (w : Jvm.Cond) (e : tables_1[i]? = some w) => hw w (List.mem_of_getElem? e)
  have hCm := H.2.1
  have hSi := H.2.2.1
  have hEL := H.2.2.2
  have hWs : ∀ d ∈ StrChars.Road.words, d.before a0 Z = true := fun d hd => hw d (own_wbackV d hd)
  have hWc : ∀ d ∈ StrChars.Road.wordsChN, d.before a0 Z = true := fun d hd => hw d (own_wchN d hd)
  have hWe : ∀ d ∈ StrChars.Road.wordsEq, d.before a0 Z = true := fun d hd => hw d (own_weqW d hd)
  have hSA : ∀ d ∈ Bundle.stringAtoms, d.before a0 Z = true := fun d hd => hw d (own_wSA d hd)
  refine Own.Con.of own_pn70a026 hEL O0 ?_
  intro p e s m below meth c T0 G vm0 hx hby hml hret hnm hG hR S0
  have hz : ∀ L : Array Slot, L.size = 1 → L.size = c.maxLocals := fun L q => q.trans hml.symm
  rw [own_ef_own_empty]
  show G T0 (mkF m 0 #[.unset] [])
  obtain ⟨Sl, Sn, Sv, Av, Ev, Ekl, Ekn, Fkl, Fkn, Sts, Stn, Se, Ee, Fe⟩ := id N
  refine Own.Sit.getS hG S0 hx (host := "") (Or.inl (hW 78 _ rfl)) Via.refl (Se.ext S0.old) rfl (hb hby own_djdk_32_method_1_code_0) (fun T259 S259 => ?_)
  show G T259 (mkF m 3 #[.unset] [(.ref em)])
  refine hG.st (fun t q => XS.astoreN S259.here hx rfl (hb hby own_djdk_32_method_1_code_3) rfl rfl (l' := #[rv em]) rfl (XS.aloadN S259.here hx rfl (hb hby own_djdk_32_method_1_code_4) rfl rfl q)) ?_
  show G T259 (mkF m 5 #[rv em] [(.ref em)])
  exact Own.Sit.retO hR S259 hx hret rfl (Or.inr (Or.inr (Or.inr (Or.inr ⟨rfl, rfl, rfl⟩)))) (hb hby own_djdk_32_method_1_code_5) (by decide) (by decide) ⟨(Keep.refl _ _), rfl⟩
theorem own_pne607d0 : plainFor (⟨"java/util/Objects", "requireNonNull", "(Ljava/lang/Object;)Ljava/lang/Object;"⟩ : MethodName) = true := by first | exact plainFor_of_name (by first | (simp [plainName, overriddenIn]; done) | decide +kernel) | decide +kernel
theorem own_djdk_31_method_10_code_0 : decode jdk_31_method_10_code 0 = .ok (.aload_n 0, 1) := by decide +kernel
theorem own_djdk_31_method_10_code_1 : decode jdk_31_method_10_code 1 = .ok (.ifnonnull 11, 3) := by decide +kernel
theorem own_djdk_31_method_10_code_12 : decode jdk_31_method_10_code 12 = .ok (.aload_n 0, 1) := by decide +kernel
theorem own_djdk_31_method_10_code_13 : decode jdk_31_method_10_code 13 = .ok (.areturn, 1) := by decide +kernel
theorem own_ef_own_rnn (m : MethodId) (r : Addr) : entryFrame m #[(.ref r)] 1 = mkF m 0 #[rv r] [] := by first | (simp [entryFrame, mkF, argsToLocals, Value.category]; done) | rfl
set_option maxRecDepth 65536 in
set_option maxHeartbeats 40000000 in
theorem own_rnn (l : Launch) (Z : State) (a0 : Array Value) (H : own_Wld Z a0) {cw : List Jvm.Cond} (r : Addr) (h0 : Heap) (O0 : Ext Z.heap h0) :
    Own.Con l Z consts_1 (⟨"java/util/Objects", "requireNonNull", "(Ljava/lang/Object;)Ljava/lang/Object;"⟩ : MethodName) jdk_31_method_10_code 1 (some (.object "java/lang/Object")) cw ({ frames := 0, cells := 0, slots := 0, locals := 0 } : Room) #[(.ref r)] h0 (fun v h => Keep h0 h [] ∧ v = some (.ref r)) := by
  have hw := H.1
  have hW := fun (i : Nat) (w : Jvm.Cond) (e : tables_1[i]? = some w) => hw w (List.mem_of_getElem? e)
  have hCm := H.2.1
  have hSi := H.2.2.1
  have hEL := H.2.2.2
  have hWs : ∀ d ∈ StrChars.Road.words, d.before a0 Z = true := fun d hd => hw d (own_wbackV d hd)
  have hWc : ∀ d ∈ StrChars.Road.wordsChN, d.before a0 Z = true := fun d hd => hw d (own_wchN d hd)
  have hWe : ∀ d ∈ StrChars.Road.wordsEq, d.before a0 Z = true := fun d hd => hw d (own_weqW d hd)
  have hSA : ∀ d ∈ Bundle.stringAtoms, d.before a0 Z = true := fun d hd => hw d (own_wSA d hd)
  refine Own.Con.of own_pne607d0 hEL O0 ?_
  intro p e s m below meth c T0 G vm0 hx hby hml hret hnm hG hR S0
  have hz : ∀ L : Array Slot, L.size = 1 → L.size = c.maxLocals := fun L q => q.trans hml.symm
  rw [own_ef_own_rnn]
  show G T0 (mkF m 0 #[rv r] [])
  refine hG.st (fun t q => XS.aloadN S0.here hx rfl (hb hby own_djdk_31_method_10_code_0) rfl rfl (XS.ifnonnullYes S0.here hx rfl (pc0 := 1) (pc' := 12) rfl (hb hby own_djdk_31_method_10_code_1) rfl (by decide) (by decide) (XS.aloadN S0.here hx rfl (hb hby own_djdk_31_method_10_code_12) rfl rfl q))) ?_
  show G T0 (mkF m 13 #[rv r] [(.ref r)])
  exact Own.Sit.retO hR S0 hx hret rfl (Or.inr (Or.inr (Or.inr (Or.inr ⟨rfl, rfl, rfl⟩)))) (hb hby own_djdk_31_method_10_code_13) (by decide) (by decide) ⟨(Keep.refl _ _), rfl⟩
theorem own_pnee4f1e : plainFor (⟨"java/util/Optional", "<init>", "(Ljava/lang/Object;)V"⟩ : MethodName) = true := by first | exact plainFor_of_name (by first | (simp [plainName, overriddenIn]; done) | decide +kernel) | decide +kernel
theorem own_djdk_32_method_2_code_0 : decode jdk_32_method_2_code 0 = .ok (.aload_n 0, 1) := by decide +kernel
theorem own_djdk_32_method_2_code_1 : decode jdk_32_method_2_code 1 = .ok (.invokespecial 7, 3) := by decide +kernel
theorem own_djdk_32_method_2_code_4 : decode jdk_32_method_2_code 4 = .ok (.aload_n 0, 1) := by decide +kernel
theorem own_djdk_32_method_2_code_5 : decode jdk_32_method_2_code 5 = .ok (.aload_n 1, 1) := by decide +kernel
theorem own_djdk_32_method_2_code_6 : decode jdk_32_method_2_code 6 = .ok (.putfield 13, 3) := by decide +kernel
theorem own_djdk_32_method_2_code_9 : decode jdk_32_method_2_code 9 = .ok (.return_, 1) := by decide +kernel
theorem own_ef_own_oin (m : MethodId) (o : Addr) (r : Addr) : entryFrame m #[(.ref o), (.ref r)] 2 = mkF m 0 #[rv o, rv r] [] := by first | (simp [entryFrame, mkF, argsToLocals, Value.category]; done) | rfl
set_option maxRecDepth 65536 in
set_option maxHeartbeats 40000000 in
theorem own_oin (l : Launch) (Z : State) (a0 : Array Value) (H : own_Wld Z a0) {cw : List Jvm.Cond} (o : Addr) (r : Addr) (h0 : Heap) (O0 : Ext Z.heap h0) (g_o : Z.heap.size ≤ o) (E_o : Exa Z h0 o "java/util/Optional") (F_o : Fld Z h0 o "java/util/Optional" "value" "Ljava/lang/Object;" .null) :
    Own.Con l Z consts_1 (⟨"java/util/Optional", "<init>", "(Ljava/lang/Object;)V"⟩ : MethodName) jdk_32_method_2_code 2 none cw ({ frames := 1, cells := 0, slots := 0, locals := 12 } : Room) #[(.ref o), (.ref r)] h0 (fun v h => Keep h0 h [o] ∧ v = none ∧ Fld Z h o "java/util/Optional" "value" "Ljava/lang/Object;" (.ref r)) := by
  have hw := H.1
  have hW := fun (i : Nat) (w : Jvm.Cond) (e : tables_1[i]? = some w) => hw w (List.mem_of_getElem? e)
  have hCm := H.2.1
  have hSi := H.2.2.1
  have hEL := H.2.2.2
  have hWs : ∀ d ∈ StrChars.Road.words, d.before a0 Z = true := fun d hd => hw d (own_wbackV d hd)
  have hWc : ∀ d ∈ StrChars.Road.wordsChN, d.before a0 Z = true := fun d hd => hw d (own_wchN d hd)
  have hWe : ∀ d ∈ StrChars.Road.wordsEq, d.before a0 Z = true := fun d hd => hw d (own_weqW d hd)
  have hSA : ∀ d ∈ Bundle.stringAtoms, d.before a0 Z = true := fun d hd => hw d (own_wSA d hd)
  refine Own.Con.of own_pnee4f1e hEL O0 ?_
  intro p e s m below meth c T0 G vm0 hx hby hml hret hnm hG hR S0
  have hz : ∀ L : Array Slot, L.size = 2 → L.size = c.maxLocals := fun L q => q.trans hml.symm
  rw [own_ef_own_oin]
  show G T0 (mkF m 0 #[rv o, rv r] [])
  refine hG.st (fun t q => XS.aloadN S0.here hx rfl (hb hby own_djdk_32_method_2_code_0) rfl rfl q) ?_
  show G T0 (mkF m 1 #[rv o, rv r] [(.ref o)])
  refine Own.Sit.initO hG S0 hx (hW 125 _ rfl) (hW 23 _ rfl) (hW 24 _ rfl) rfl (hz _ rfl) rfl (hb hby own_djdk_32_method_2_code_1) (by decide) (W := 0) (by show 2 * 0 + _ ≤ _; exact Nat.le_of_eq rfl) (by decide) (fun T260 S260 => ?_)
  show G T260 (mkF m 4 #[rv o, rv r] [])
  refine hG.st (fun t q => XS.aloadN S260.here hx rfl (hb hby own_djdk_32_method_2_code_4) rfl rfl (XS.aloadN S260.here hx rfl (hb hby own_djdk_32_method_2_code_5) rfl rfl q)) ?_
  show G T260 (mkF m 6 #[rv o, rv r] [(.ref r), (.ref o)])
  refine Own.Sit.putF hG S260 hx (host := "") (Or.inl (hW 84 _ rfl)) Via.refl F_o E_o (Or.inr ⟨(hW 85 _ rfl), rfl, hnm⟩) (hW 116 _ rfl) (ty := (.object "java/lang/Object")) (by decide) rfl rfl g_o (Safe.exa S260.warm.alike E_o (by decide) (by decide)) rfl rfl (hb hby own_djdk_32_method_2_code_6) (fun T261 h261 S261 J261 W261 F261 => ?_)
  show G T261 (mkF m 9 #[rv o, rv r] [])
  exact Own.Sit.ret0 hR S261 hx hret (hb hby own_djdk_32_method_2_code_9) (by decide) (by decide) ⟨J261.1, rfl, F261⟩
theorem own_pn4cc260 : plainFor (⟨"java/util/Optional", "of", "(Ljava/lang/Object;)Ljava/util/Optional;"⟩ : MethodName) = true := by first | exact plainFor_of_name (by first | (simp [plainName, overriddenIn]; done) | decide +kernel) | decide +kernel
theorem own_pdc2743d : parseMethodDescriptor "(Ljava/lang/Object;)Ljava/lang/Object;" = some ⟨[(.object "java/lang/Object")], some (.object "java/lang/Object")⟩ := by decide +kernel
theorem own_pdc90bfb : parseMethodDescriptor "(Ljava/lang/Object;)V" = some ⟨[(.object "java/lang/Object")], none⟩ := by decide +kernel
theorem own_djdk_32_method_3_code_0 : decode jdk_32_method_3_code 0 = .ok (.new 2, 3) := by decide +kernel
theorem own_djdk_32_method_3_code_3 : decode jdk_32_method_3_code 3 = .ok (.dup, 1) := by decide +kernel
theorem own_djdk_32_method_3_code_4 : decode jdk_32_method_3_code 4 = .ok (.aload_n 0, 1) := by decide +kernel
theorem own_djdk_32_method_3_code_5 : decode jdk_32_method_3_code 5 = .ok (.invokestatic 17, 3) := by decide +kernel
theorem own_djdk_32_method_3_code_8 : decode jdk_32_method_3_code 8 = .ok (.invokespecial 23, 3) := by decide +kernel
theorem own_djdk_32_method_3_code_11 : decode jdk_32_method_3_code 11 = .ok (.areturn, 1) := by decide +kernel
theorem own_ef_own_of (m : MethodId) (r : Addr) : entryFrame m #[(.ref r)] 1 = mkF m 0 #[rv r] [] := by first | (simp [entryFrame, mkF, argsToLocals, Value.category]; done) | rfl
set_option maxRecDepth 65536 in
set_option maxHeartbeats 40000000 in
theorem own_of (l : Launch) (Z : State) (a0 : Array Value) (H : own_Wld Z a0) {cw : List Jvm.Cond} (r : Addr) (h0 : Heap) (O0 : Ext Z.heap h0) :
    Own.Con l Z consts_1 (⟨"java/util/Optional", "of", "(Ljava/lang/Object;)Ljava/util/Optional;"⟩ : MethodName) jdk_32_method_3_code 1 (some (.object "java/util/Optional")) cw ({ frames := 2, cells := 1, slots := 1, locals := 26 } : Room) #[(.ref r)] h0 (fun v h => Keep h0 h [] ∧ ∃ o, v = some (.ref o) ∧ h0.size ≤ o ∧ Exa Z h o "java/util/Optional" ∧ Fld Z h o "java/util/Optional" "value" "Ljava/lang/Object;" (.ref r)) := by
  have hw := H.1
  have hW := fun (i : Nat) (w : Jvm.Cond) (e : tables_1[i]? = some w) => hw w (List.mem_of_getElem? e)
  have hCm := H.2.1
  have hSi := H.2.2.1
  have hEL := H.2.2.2
  have hWs : ∀ d ∈ StrChars.Road.words, d.before a0 Z = true := fun d hd => hw d (own_wbackV d hd)
  have hWc : ∀ d ∈ StrChars.Road.wordsChN, d.before a0 Z = true := fun d hd => hw d (own_wchN d hd)
  have hWe : ∀ d ∈ StrChars.Road.wordsEq, d.before a0 Z = true := fun d hd => hw d (own_weqW d hd)
  have hSA : ∀ d ∈ Bundle.stringAtoms, d.before a0 Z = true := fun d hd => hw d (own_wSA d hd)
  refine Own.Con.of own_pn4cc260 hEL O0 ?_
  intro p e s m below meth c T0 G vm0 hx hby hml hret hnm hG hR S0
  have hz : ∀ L : Array Slot, L.size = 1 → L.size = c.maxLocals := fun L q => q.trans hml.symm
  rw [own_ef_own_of]
  show G T0 (mkF m 0 #[rv r] [])
  refine Own.Sit.newO hG S0 hx (hW 115 _ rfl) (hW 116 _ rfl) (hW 76 _ rfl) rfl (hb hby own_djdk_32_method_3_code_0) (by decide) (by decide) (fun T262 h262 x262 g_x262 S262 J262 Sf262 E262 D262 => ?_)
  have lt_x262 := E262.lt
  have ga_x262 : Z.heap.size ≤ x262 := Nat.le_trans S0.le (Nat.le_of_eq g_x262.symm)
  have F263 : Fld Z h262 x262 "java/util/Optional" "value" "Ljava/lang/Object;" .null := D262 (Or.inr (hW 85 _ rfl)) (ty := (.object "java/lang/Object")) (by decide)
  show G T262 (mkF m 3 #[rv r] [(.ref x262)])
  refine hG.st (fun t q => XS.dup S262.here hx rfl (hb hby own_djdk_32_method_3_code_3) rfl rfl (XS.aloadN S262.here hx rfl (hb hby own_djdk_32_method_3_code_4) rfl rfl q)) ?_
  show G T262 (mkF m 5 #[rv r] [(.ref r), (.ref x262), (.ref x262)])
  refine Own.Sit.callS hG S262 hx hEL (as := [(.ref r)]) (hW 117 _ rfl) (hW 118 _ rfl) (hW 119 _ rfl) (hW 120 _ rfl) (by decide) (own_rnn l Z a0 H r h262 S262.old) own_pdc2743d rfl rfl (hz _ rfl) (rest := [(.ref x262), (.ref x262)]) rfl (W := 2) (by show 2 * 0 + _ ≤ _; exact Nat.le_of_eq rfl) (hb hby own_djdk_32_method_3_code_5) (by decide) (by decide) (by decide) (by decide) (fun v264 vm264 T264 h264 S264 C264 q264 => ?_)
  obtain ⟨K264, rfl⟩ := q264
  have J264 : Own.Stp Z consts_1 vm0 h262 vm264 h264 [] := ⟨K264, C264⟩
  show G T264 (mkF m 8 #[rv r] [(.ref r), (.ref x262), (.ref x262)])
  have E265 := J264.exa E262
  have F266 := J264.fld F263 nin0
  refine Own.Sit.callI hG S264 hx hEL rfl (as := [(.ref r)]) (hW 121 _ rfl) (hW 122 _ rfl) (hW 76 _ rfl) (hW 124 _ rfl) (by decide) (own_oin l Z a0 H x262 r h264 S264.old ga_x262 E265 F266) own_pdc90bfb rfl rfl (hz _ rfl) (rest := [(.ref x262)]) rfl (W := 1) (by show 2 * 0 + _ ≤ _; exact Nat.le_of_eq rfl) (hb hby own_djdk_32_method_3_code_8) (by decide) (by decide) (by decide) (by decide) (fun v267 vm267 T267 h267 S267 C267 q267 => ?_)
  obtain ⟨K267, rfl, F267⟩ := q267
  have J267 : Own.Stp Z consts_1 vm264 h264 vm267 h267 [x262] := ⟨K267, C267⟩
  show G T267 (mkF m 11 #[rv r] [(.ref x262)])
  have J268 : Own.Stp Z consts_1 vm0 h0 vm264 h264 [] := Own.Stp.trans J262 J264 (all0) all0
  have J269 : Own.Stp Z consts_1 vm0 h0 vm267 h267 [] := Own.Stp.trans J268 J267 (all0) (allS (Or.inr (Nat.le_of_eq g_x262.symm)) all0)
  have E270 := J267.exa E265
  exact Own.Sit.retO hR S267 hx hret rfl (Or.inr (Or.inr (Or.inr (Or.inr ⟨rfl, rfl, rfl⟩)))) (hb hby own_djdk_32_method_3_code_11) (by decide) (by decide) ⟨J269.1, x262, rfl, (Nat.le_of_eq g_x262.symm), E270, F267⟩
theorem own_pn7943ee : plainFor (⟨"com/example/lorac/lorac/Edit$Operation", "named", "(Ljava/lang/String;)Ljava/util/Optional;"⟩ : MethodName) = true := by first | exact plainFor_of_name (by first | (simp [plainName, overriddenIn]; done) | decide +kernel) | decide +kernel
theorem own_pd576610 : parseMethodDescriptor "()[Lcom/example/lorac/lorac/Edit$Operation;" = some ⟨[], some (.array (.object "com/example/lorac/lorac/Edit$Operation"))⟩ := by decide +kernel
theorem own_pd360351 : parseMethodDescriptor "(Ljava/lang/Object;)Ljava/util/Optional;" = some ⟨[(.object "java/lang/Object")], some (.object "java/util/Optional")⟩ := by decide +kernel
theorem own_pd7dc938 : parseMethodDescriptor "()Ljava/util/Optional;" = some ⟨[], some (.object "java/util/Optional")⟩ := by decide +kernel
theorem own_dprog_5_method_4_code_0 : decode prog_5_method_4_code 0 = .ok (.invokestatic 33, 3) := by decide +kernel
theorem own_dprog_5_method_4_code_3 : decode prog_5_method_4_code 3 = .ok (.astore_n 1, 1) := by decide +kernel
theorem own_dprog_5_method_4_code_4 : decode prog_5_method_4_code 4 = .ok (.aload_n 1, 1) := by decide +kernel
theorem own_dprog_5_method_4_code_5 : decode prog_5_method_4_code 5 = .ok (.arraylength, 1) := by decide +kernel
theorem own_dprog_5_method_4_code_6 : decode prog_5_method_4_code 6 = .ok (.istore_n 2, 1) := by decide +kernel
theorem own_dprog_5_method_4_code_7 : decode prog_5_method_4_code 7 = .ok (.iconst 0, 1) := by decide +kernel
theorem own_dprog_5_method_4_code_8 : decode prog_5_method_4_code 8 = .ok (.istore_n 3, 1) := by decide +kernel
theorem own_dprog_5_method_4_code_9 : decode prog_5_method_4_code 9 = .ok (.iload_n 3, 1) := by decide +kernel
theorem own_dprog_5_method_4_code_10 : decode prog_5_method_4_code 10 = .ok (.iload_n 2, 1) := by decide +kernel
theorem own_dprog_5_method_4_code_11 : decode prog_5_method_4_code 11 = .ok (.if_icmp .ge 32, 3) := by decide +kernel
theorem own_dprog_5_method_4_code_14 : decode prog_5_method_4_code 14 = .ok (.aload_n 1, 1) := by decide +kernel
theorem own_dprog_5_method_4_code_15 : decode prog_5_method_4_code 15 = .ok (.iload_n 3, 1) := by decide +kernel
theorem own_dprog_5_method_4_code_16 : decode prog_5_method_4_code 16 = .ok (.aaload, 1) := by decide +kernel
theorem own_dprog_5_method_4_code_17 : decode prog_5_method_4_code 17 = .ok (.astore 4, 2) := by decide +kernel
theorem own_dprog_5_method_4_code_19 : decode prog_5_method_4_code 19 = .ok (.aload 4, 2) := by decide +kernel
theorem own_dprog_5_method_4_code_21 : decode prog_5_method_4_code 21 = .ok (.getfield 29, 3) := by decide +kernel
theorem own_dprog_5_method_4_code_24 : decode prog_5_method_4_code 24 = .ok (.aload_n 0, 1) := by decide +kernel
theorem own_dprog_5_method_4_code_25 : decode prog_5_method_4_code 25 = .ok (.invokevirtual 37, 3) := by decide +kernel
theorem own_dprog_5_method_4_code_28 : decode prog_5_method_4_code 28 = .ok (.ifCond .eq 9, 3) := by decide +kernel
theorem own_dprog_5_method_4_code_31 : decode prog_5_method_4_code 31 = .ok (.aload 4, 2) := by decide +kernel
theorem own_dprog_5_method_4_code_33 : decode prog_5_method_4_code 33 = .ok (.invokestatic 43, 3) := by decide +kernel
theorem own_dprog_5_method_4_code_36 : decode prog_5_method_4_code 36 = .ok (.areturn, 1) := by decide +kernel
theorem own_dprog_5_method_4_code_37 : decode prog_5_method_4_code 37 = .ok (.iinc 3 1, 3) := by decide +kernel
theorem own_dprog_5_method_4_code_40 : decode prog_5_method_4_code 40 = .ok (.goto (-31), 3) := by decide +kernel
theorem own_dprog_5_method_4_code_43 : decode prog_5_method_4_code 43 = .ok (.invokestatic 49, 3) := by decide +kernel
theorem own_dprog_5_method_4_code_46 : decode prog_5_method_4_code 46 = .ok (.areturn, 1) := by decide +kernel
theorem own_ef_own_named (m : MethodId) (x : Addr) : entryFrame m #[(.ref x)] 5 = mkF m 0 #[rv x, .unset, .unset, .unset, .unset] [] := by first | (simp [entryFrame, mkF, argsToLocals, Value.category]; done) | rfl
set_option maxRecDepth 65536 in
set_option maxHeartbeats 40000000 in
theorem own_named (l : Launch) (Z : State) (a0 : Array Value) (H : own_Wld Z a0) {cw : List Jvm.Cond} (x : Addr) {ka kd va sl tl sn tn em : Addr} {kc : ClassId} (N : own_En Z ka kd va sl tl sn tn em kc) (t : Addr) (cs : List Int32) (h0 : Heap) (O0 : Ext Z.heap h0) (St_x : Own.Str Z h0 x t cs) :
    Own.Con l Z consts_1 (⟨"com/example/lorac/lorac/Edit$Operation", "named", "(Ljava/lang/String;)Ljava/util/Optional;"⟩ : MethodName) prog_5_method_4_code 5 (some (.object "java/util/Optional")) cw ({ frames := 3, cells := 2, slots := 3, locals := 38 } : Room) #[(.ref x)] h0 (fun v h => Keep h0 h [] ∧ ∃ o, v = some (.ref o) ∧ Exa Z h o "java/util/Optional" ∧ ((([97, 100, 100] : List Int32) = cs ∧ Fld Z h o "java/util/Optional" "value" "Ljava/lang/Object;" (.ref ka)) ∨ (([100, 101, 108, 101, 116, 101] : List Int32) = cs ∧ Fld Z h o "java/util/Optional" "value" "Ljava/lang/Object;" (.ref kd)) ∨ ((¬ ([97, 100, 100] : List Int32) = cs ∧ ¬ ([100, 101, 108, 101, 116, 101] : List Int32) = cs) ∧ Fld Z h o "java/util/Optional" "value" "Ljava/lang/Object;" .null))) := by
  have hw := H.1
  have hW := fun (i : Nat) (w : Jvm.Cond) (e : tables_1[i]? = some w) => hw w (List.mem_of_getElem? e)
  have hCm := H.2.1
  have hSi := H.2.2.1
  have hEL := H.2.2.2
  have hWs : ∀ d ∈ StrChars.Road.words, d.before a0 Z = true := fun d hd => hw d (own_wbackV d hd)
  have hWc : ∀ d ∈ StrChars.Road.wordsChN, d.before a0 Z = true := fun d hd => hw d (own_wchN d hd)
  have hWe : ∀ d ∈ StrChars.Road.wordsEq, d.before a0 Z = true := fun d hd => hw d (own_weqW d hd)
  have hSA : ∀ d ∈ Bundle.stringAtoms, d.before a0 Z = true := fun d hd => hw d (own_wSA d hd)
  refine Own.Con.of own_pn7943ee hEL O0 ?_
  intro p e s m below meth c T0 G vm0 hx hby hml hret hnm hG hR S0
  have hz : ∀ L : Array Slot, L.size = 5 → L.size = c.maxLocals := fun L q => q.trans hml.symm
  rw [own_ef_own_named]
  show G T0 (mkF m 0 #[rv x, .unset, .unset, .unset, .unset] [])
  obtain ⟨Sl, Sn, Sv, Av, Ev, Ekl, Ekn, Fkl, Fkn, Sts, Stn, Se, Ee, Fe⟩ := id N
  refine Own.Sit.callS hG S0 hx hEL (as := []) (hW 45 _ rfl) (hW 46 _ rfl) (hW 43 _ rfl) (hW 47 _ rfl) (by decide) (own_values l Z a0 H N h0 S0.old) own_pd576610 rfl rfl (hz _ rfl) (rest := []) rfl (W := 0) (by show 2 * 0 + _ ≤ _; exact Nat.le_of_eq rfl) (hb hby own_dprog_5_method_4_code_0) (by decide) (by decide) (by decide) (by decide) (fun v271 vm271 T271 h271 S271 C271 q271 => ?_)
  obtain ⟨K271, x271, rfl, u271, V271⟩ := q271
  have J271 : Own.Stp Z consts_1 vm0 h0 vm271 h271 [] := ⟨K271, C271⟩
  show G T271 (mkF m 3 #[rv x, .unset, .unset, .unset, .unset] [(.ref x271)])
  refine hG.st (fun t q => XS.astoreN S271.here hx rfl (hb hby own_dprog_5_method_4_code_3) rfl rfl (l' := #[rv x, rv x271, .unset, .unset, .unset]) rfl (XS.aloadN S271.here hx rfl (hb hby own_dprog_5_method_4_code_4) rfl rfl q)) ?_
  show G T271 (mkF m 5 #[rv x, rv x271, .unset, .unset, .unset] [(.ref x271)])
  refine Own.Sit.arraylength hG S271 hx V271 rfl rfl (hb hby own_dprog_5_method_4_code_5) ?_
  show G T271 (mkF m 6 #[rv x, rv x271, .unset, .unset, .unset] [(.int 2)])
  refine hG.st (fun t q => XS.istoreN S271.here hx rfl (hb hby own_dprog_5_method_4_code_6) rfl (l' := #[rv x, rv x271, iv 2, .unset, .unset]) rfl (XS.iconst S271.here hx rfl (hb hby own_dprog_5_method_4_code_7) (XS.istoreN S271.here hx rfl (hb hby own_dprog_5_method_4_code_8) rfl (l' := #[rv x, rv x271, iv 2, iv 0, .unset]) rfl (XS.iloadN S271.here hx rfl (hb hby own_dprog_5_method_4_code_9) rfl (XS.iloadN S271.here hx rfl (hb hby own_dprog_5_method_4_code_10) rfl (XS.icmpNo S271.here hx rfl (hb hby own_dprog_5_method_4_code_11) rfl (tlt (by decide : (0 : Int32) < (2 : Int32))).2.1 q)))))) ?_
  show G T271 (mkF m 14 #[rv x, rv x271, iv 2, iv 0, .unset] [])
  refine hG.st (fun t q => XS.aloadN S271.here hx rfl (hb hby own_dprog_5_method_4_code_14) rfl rfl (XS.iloadN S271.here hx rfl (hb hby own_dprog_5_method_4_code_15) rfl q)) ?_
  show G T271 (mkF m 16 #[rv x, rv x271, iv 2, iv 0, .unset] [(.int 0), (.ref x271)])
  refine Own.Sit.aaload hG S271 hx V271 rfl ⟨by decide, by decide⟩ rfl rfl rfl (hb hby own_dprog_5_method_4_code_16) ?_
  show G T271 (mkF m 17 #[rv x, rv x271, iv 2, iv 0, .unset] [(.ref ka)])
  refine hG.st (fun t q => XS.astore S271.here hx rfl (hb hby own_dprog_5_method_4_code_17) rfl rfl (l' := #[rv x, rv x271, iv 2, iv 0, rv ka]) rfl (XS.aload S271.here hx rfl (hb hby own_dprog_5_method_4_code_19) rfl rfl q)) ?_
  show G T271 (mkF m 21 #[rv x, rv x271, iv 2, iv 0, rv ka] [(.ref ka)])
  have F272 := Fkl.ext S271.old
  refine Own.Sit.getF hG S271 hx (host := "") (Or.inl (hW 62 _ rfl)) Via.refl F272 rfl rfl (hb hby own_dprog_5_method_4_code_21) (fun T273 S273 => ?_)
  show G T273 (mkF m 24 #[rv x, rv x271, iv 2, iv 0, rv ka] [(.ref sl)])
  refine hG.st (fun t q => XS.aloadN S273.here hx rfl (hb hby own_dprog_5_method_4_code_24) rfl rfl q) ?_
  show G T273 (mkF m 25 #[rv x, rv x271, iv 2, iv 0, rv ka] [(.ref x), (.ref sl)])
  have St274 := Sts.ext S273.old
  have St275 := J271.str St_x nin0 nin0
  refine Own.Sit.strEq hG S273 hx hWe hCm (hW 13 _ rfl) (hW 64 _ rfl) (hW 65 _ rfl) (hW 67 _ rfl) (hW 66 _ rfl) St274 St275 rfl (hz _ rfl) (rest := []) rfl (W := 0) (by show 2 * 0 + _ ≤ _; exact Nat.le_of_eq rfl) (hb hby own_dprog_5_method_4_code_25) (by decide) (by decide) (by decide) (by decide) (fun T276 S276 => ?_)
  show G T276 (mkF m 28 #[rv x, rv x271, iv 2, iv 0, rv ka] [(.int (if ([97, 100, 100] : List Int32) = cs then 1 else 0))])
  by_cases he277 : ([97, 100, 100] : List Int32) = cs
  ·
    refine hG.st (fun t q => XS.ifNo S276.here hx rfl (hb hby own_dprog_5_method_4_code_28) rfl ((if0 _ _).trans (feq (by rw [if_pos he277]; decide : ¬ ((if ([97, 100, 100] : List Int32) = cs then 1 else 0) = (0 : Int32)))).1) (XS.aload S276.here hx rfl (hb hby own_dprog_5_method_4_code_31) rfl rfl q)) ?_
    show G T276 (mkF m 33 #[rv x, rv x271, iv 2, iv 0, rv ka] [(.ref ka)])
    refine Own.Sit.callS hG S276 hx hEL (as := [(.ref ka)]) (hW 112 _ rfl) (hW 113 _ rfl) (hW 76 _ rfl) (hW 114 _ rfl) (by decide) (own_of l Z a0 H ka h271 S276.old) own_pd360351 rfl rfl (hz _ rfl) (rest := []) rfl (W := 0) (by show 2 * 0 + _ ≤ _; exact Nat.le_of_eq rfl) (hb hby own_dprog_5_method_4_code_33) (by decide) (by decide) (by decide) (by decide) (fun v278 vm278 T278 h278 S278 C278 q278 => ?_)
    obtain ⟨K278, x278, rfl, u278, E278, F278⟩ := q278
    have J278 : Own.Stp Z consts_1 vm271 h271 vm278 h278 [] := ⟨K278, C278⟩
    show G T278 (mkF m 36 #[rv x, rv x271, iv 2, iv 0, rv ka] [(.ref x278)])
    have J279 : Own.Stp Z consts_1 vm0 h0 vm278 h278 [] := Own.Stp.trans J271 J278 (all0) all0
    exact Own.Sit.retO hR S278 hx hret rfl (Or.inr (Or.inr (Or.inr (Or.inr ⟨rfl, rfl, rfl⟩)))) (hb hby own_dprog_5_method_4_code_36) (by decide) (by decide) ⟨J279.1, x278, rfl, E278, Or.inl ⟨he277, F278⟩⟩
  ·
    refine hG.st (fun t q => XS.ifYes S276.here hx rfl (pc0 := 28) (pc' := 37) rfl (hb hby own_dprog_5_method_4_code_28) rfl ((if0 _ _).trans (teq (by rw [if_neg he277] : (if ([97, 100, 100] : List Int32) = cs then 1 else 0) = (0 : Int32))).1) (by decide) (by decide) (XS.iinc S276.here hx rfl (hb hby own_dprog_5_method_4_code_37) rfl (l' := #[rv x, rv x271, iv 2, iv 1, rv ka]) rfl (XS.goto S276.here hx rfl (pc0 := 40) (pc' := 9) rfl (hb hby own_dprog_5_method_4_code_40) (by decide) (by decide) (XS.iloadN S276.here hx rfl (hb hby own_dprog_5_method_4_code_9) rfl (XS.iloadN S276.here hx rfl (hb hby own_dprog_5_method_4_code_10) rfl (XS.icmpNo S276.here hx rfl (hb hby own_dprog_5_method_4_code_11) rfl (tlt (by decide : (1 : Int32) < (2 : Int32))).2.1 q)))))) ?_
    show G T276 (mkF m 14 #[rv x, rv x271, iv 2, iv 1, rv ka] [])
    refine hG.st (fun t q => XS.aloadN S276.here hx rfl (hb hby own_dprog_5_method_4_code_14) rfl rfl (XS.iloadN S276.here hx rfl (hb hby own_dprog_5_method_4_code_15) rfl q)) ?_
    show G T276 (mkF m 16 #[rv x, rv x271, iv 2, iv 1, rv ka] [(.int 1), (.ref x271)])
    refine Own.Sit.aaload hG S276 hx V271 rfl ⟨by decide, by decide⟩ rfl rfl rfl (hb hby own_dprog_5_method_4_code_16) ?_
    show G T276 (mkF m 17 #[rv x, rv x271, iv 2, iv 1, rv ka] [(.ref kd)])
    refine hG.st (fun t q => XS.astore S276.here hx rfl (hb hby own_dprog_5_method_4_code_17) rfl rfl (l' := #[rv x, rv x271, iv 2, iv 1, rv kd]) rfl (XS.aload S276.here hx rfl (hb hby own_dprog_5_method_4_code_19) rfl rfl q)) ?_
    show G T276 (mkF m 21 #[rv x, rv x271, iv 2, iv 1, rv kd] [(.ref kd)])
    have F280 := Fkn.ext S276.old
    refine Own.Sit.getF hG S276 hx (host := "") (Or.inl (hW 62 _ rfl)) Via.refl F280 rfl rfl (hb hby own_dprog_5_method_4_code_21) (fun T281 S281 => ?_)
    show G T281 (mkF m 24 #[rv x, rv x271, iv 2, iv 1, rv kd] [(.ref sn)])
    refine hG.st (fun t q => XS.aloadN S281.here hx rfl (hb hby own_dprog_5_method_4_code_24) rfl rfl q) ?_
    show G T281 (mkF m 25 #[rv x, rv x271, iv 2, iv 1, rv kd] [(.ref x), (.ref sn)])
    have St282 := Stn.ext S281.old
    refine Own.Sit.strEq hG S281 hx hWe hCm (hW 13 _ rfl) (hW 64 _ rfl) (hW 65 _ rfl) (hW 67 _ rfl) (hW 66 _ rfl) St282 St275 rfl (hz _ rfl) (rest := []) rfl (W := 0) (by show 2 * 0 + _ ≤ _; exact Nat.le_of_eq rfl) (hb hby own_dprog_5_method_4_code_25) (by decide) (by decide) (by decide) (by decide) (fun T283 S283 => ?_)
    show G T283 (mkF m 28 #[rv x, rv x271, iv 2, iv 1, rv kd] [(.int (if ([100, 101, 108, 101, 116, 101] : List Int32) = cs then 1 else 0))])
    by_cases he284 : ([100, 101, 108, 101, 116, 101] : List Int32) = cs
    ·
      refine hG.st (fun t q => XS.ifNo S283.here hx rfl (hb hby own_dprog_5_method_4_code_28) rfl ((if0 _ _).trans (feq (by rw [if_pos he284]; decide : ¬ ((if ([100, 101, 108, 101, 116, 101] : List Int32) = cs then 1 else 0) = (0 : Int32)))).1) (XS.aload S283.here hx rfl (hb hby own_dprog_5_method_4_code_31) rfl rfl q)) ?_
      show G T283 (mkF m 33 #[rv x, rv x271, iv 2, iv 1, rv kd] [(.ref kd)])
      refine Own.Sit.callS hG S283 hx hEL (as := [(.ref kd)]) (hW 112 _ rfl) (hW 113 _ rfl) (hW 76 _ rfl) (hW 114 _ rfl) (by decide) (own_of l Z a0 H kd h271 S283.old) own_pd360351 rfl rfl (hz _ rfl) (rest := []) rfl (W := 0) (by show 2 * 0 + _ ≤ _; exact Nat.le_of_eq rfl) (hb hby own_dprog_5_method_4_code_33) (by decide) (by decide) (by decide) (by decide) (fun v285 vm285 T285 h285 S285 C285 q285 => ?_)
      obtain ⟨K285, x285, rfl, u285, E285, F285⟩ := q285
      have J285 : Own.Stp Z consts_1 vm271 h271 vm285 h285 [] := ⟨K285, C285⟩
      show G T285 (mkF m 36 #[rv x, rv x271, iv 2, iv 1, rv kd] [(.ref x285)])
      have J286 : Own.Stp Z consts_1 vm0 h0 vm285 h285 [] := Own.Stp.trans J271 J285 (all0) all0
      exact Own.Sit.retO hR S285 hx hret rfl (Or.inr (Or.inr (Or.inr (Or.inr ⟨rfl, rfl, rfl⟩)))) (hb hby own_dprog_5_method_4_code_36) (by decide) (by decide) ⟨J286.1, x285, rfl, E285, Or.inr (Or.inl ⟨he284, F285⟩)⟩
    ·
      refine hG.st (fun t q => XS.ifYes S283.here hx rfl (pc0 := 28) (pc' := 37) rfl (hb hby own_dprog_5_method_4_code_28) rfl ((if0 _ _).trans (teq (by rw [if_neg he284] : (if ([100, 101, 108, 101, 116, 101] : List Int32) = cs then 1 else 0) = (0 : Int32))).1) (by decide) (by decide) (XS.iinc S283.here hx rfl (hb hby own_dprog_5_method_4_code_37) rfl (l' := #[rv x, rv x271, iv 2, iv 2, rv kd]) rfl (XS.goto S283.here hx rfl (pc0 := 40) (pc' := 9) rfl (hb hby own_dprog_5_method_4_code_40) (by decide) (by decide) (XS.iloadN S283.here hx rfl (hb hby own_dprog_5_method_4_code_9) rfl (XS.iloadN S283.here hx rfl (hb hby own_dprog_5_method_4_code_10) rfl (XS.icmpYes S283.here hx rfl (pc0 := 11) (pc' := 43) rfl (hb hby own_dprog_5_method_4_code_11) rfl (flt (by decide : ¬ ((2 : Int32) < (2 : Int32)))).2.1 (by decide) (by decide) q)))))) ?_
      show G T283 (mkF m 43 #[rv x, rv x271, iv 2, iv 2, rv kd] [])
      refine Own.Sit.callS hG S283 hx hEL (as := []) (hW 74 _ rfl) (hW 75 _ rfl) (hW 76 _ rfl) (hW 77 _ rfl) (by decide) (own_empty l Z a0 H N h271 S283.old) own_pd7dc938 rfl rfl (hz _ rfl) (rest := []) rfl (W := 0) (by show 2 * 0 + _ ≤ _; exact Nat.le_of_eq rfl) (hb hby own_dprog_5_method_4_code_43) (by decide) (by decide) (by decide) (by decide) (fun v287 vm287 T287 h287 S287 C287 q287 => ?_)
      obtain ⟨K287, rfl⟩ := q287
      have J287 : Own.Stp Z consts_1 vm271 h271 vm287 h287 [] := ⟨K287, C287⟩
      show G T287 (mkF m 46 #[rv x, rv x271, iv 2, iv 2, rv kd] [(.ref em)])
      have F288 := Fe.ext S287.old
      have J289 : Own.Stp Z consts_1 vm0 h0 vm287 h287 [] := Own.Stp.trans J271 J287 (all0) all0
      have E290 := Ee.ext S287.old
      exact Own.Sit.retO hR S287 hx hret rfl (Or.inr (Or.inr (Or.inr (Or.inr ⟨rfl, rfl, rfl⟩)))) (hb hby own_dprog_5_method_4_code_46) (by decide) (by decide) ⟨J289.1, em, rfl, E290, Or.inr (Or.inr ⟨⟨he277, he284⟩, F288⟩)⟩
theorem own_pn018bce : plainFor (⟨"java/util/Optional", "orElse", "(Ljava/lang/Object;)Ljava/lang/Object;"⟩ : MethodName) = true := by first | exact plainFor_of_name (by first | (simp [plainName, overriddenIn]; done) | decide +kernel) | decide +kernel
theorem own_djdk_32_method_15_code_0 : decode jdk_32_method_15_code 0 = .ok (.aload_n 0, 1) := by decide +kernel
theorem own_djdk_32_method_15_code_1 : decode jdk_32_method_15_code 1 = .ok (.getfield 13, 3) := by decide +kernel
theorem own_djdk_32_method_15_code_4 : decode jdk_32_method_15_code 4 = .ok (.ifnull 10, 3) := by decide +kernel
theorem own_djdk_32_method_15_code_14 : decode jdk_32_method_15_code 14 = .ok (.aload_n 1, 1) := by decide +kernel
theorem own_djdk_32_method_15_code_15 : decode jdk_32_method_15_code 15 = .ok (.areturn, 1) := by decide +kernel
theorem own_ef_own_orN (m : MethodId) (o : Addr) : entryFrame m #[(.ref o), .null] 2 = mkF m 0 #[rv o, .val .null] [] := by first | (simp [entryFrame, mkF, argsToLocals, Value.category]; done) | rfl
set_option maxRecDepth 65536 in
set_option maxHeartbeats 40000000 in
theorem own_orN (l : Launch) (Z : State) (a0 : Array Value) (H : own_Wld Z a0) {cw : List Jvm.Cond} (o : Addr) (h0 : Heap) (O0 : Ext Z.heap h0) (E_o : Exa Z h0 o "java/util/Optional") (F_o : Fld Z h0 o "java/util/Optional" "value" "Ljava/lang/Object;" .null) :
    Own.Con l Z consts_1 (⟨"java/util/Optional", "orElse", "(Ljava/lang/Object;)Ljava/lang/Object;"⟩ : MethodName) jdk_32_method_15_code 2 (some (.object "java/lang/Object")) cw ({ frames := 0, cells := 0, slots := 0, locals := 0 } : Room) #[(.ref o), .null] h0 (fun v h => Keep h0 h [] ∧ v = some .null) := by
  have hw := H.1
  have hW := fun (i : Nat) (w : Jvm.Cond) (e : tables_1[i]? = some w) => hw w (List.mem_of_getElem? e)
  have hCm := H.2.1
  have hSi := H.2.2.1
  have hEL := H.2.2.2
  have hWs : ∀ d ∈ StrChars.Road.words, d.before a0 Z = true := fun d hd => hw d (own_wbackV d hd)
  have hWc : ∀ d ∈ StrChars.Road.wordsChN, d.before a0 Z = true := fun d hd => hw d (own_wchN d hd)
  have hWe : ∀ d ∈ StrChars.Road.wordsEq, d.before a0 Z = true := fun d hd => hw d (own_weqW d hd)
  have hSA : ∀ d ∈ Bundle.stringAtoms, d.before a0 Z = true := fun d hd => hw d (own_wSA d hd)
  refine Own.Con.of own_pn018bce hEL O0 ?_
  intro p e s m below meth c T0 G vm0 hx hby hml hret hnm hG hR S0
  have hz : ∀ L : Array Slot, L.size = 2 → L.size = c.maxLocals := fun L q => q.trans hml.symm
  rw [own_ef_own_orN]
  show G T0 (mkF m 0 #[rv o, .val .null] [])
  refine hG.st (fun t q => XS.aloadN S0.here hx rfl (hb hby own_djdk_32_method_15_code_0) rfl rfl q) ?_
  show G T0 (mkF m 1 #[rv o, .val .null] [(.ref o)])
  refine Own.Sit.getF hG S0 hx (host := "") (Or.inl (hW 84 _ rfl)) Via.refl F_o rfl rfl (hb hby own_djdk_32_method_15_code_1) (fun T291 S291 => ?_)
  show G T291 (mkF m 4 #[rv o, .val .null] [.null])
  refine hG.st (fun t q => XS.ifnullYes S291.here hx rfl (pc0 := 4) (pc' := 14) rfl (hb hby own_djdk_32_method_15_code_4) rfl (by decide) (by decide) (XS.aloadN S291.here hx rfl (hb hby own_djdk_32_method_15_code_14) rfl rfl q)) ?_
  show G T291 (mkF m 15 #[rv o, .val .null] [.null])
  exact Own.Sit.retO hR S291 hx hret rfl (Or.inr (Or.inr (Or.inr (Or.inr ⟨rfl, rfl, rfl⟩)))) (hb hby own_djdk_32_method_15_code_15) (by decide) (by decide) ⟨(Keep.refl _ _), rfl⟩
theorem own_djdk_32_method_15_code_7 : decode jdk_32_method_15_code 7 = .ok (.aload_n 0, 1) := by decide +kernel
theorem own_djdk_32_method_15_code_8 : decode jdk_32_method_15_code 8 = .ok (.getfield 13, 3) := by decide +kernel
theorem own_djdk_32_method_15_code_11 : decode jdk_32_method_15_code 11 = .ok (.goto 4, 3) := by decide +kernel
theorem own_ef_own_orR (m : MethodId) (o : Addr) : entryFrame m #[(.ref o), .null] 2 = mkF m 0 #[rv o, .val .null] [] := by first | (simp [entryFrame, mkF, argsToLocals, Value.category]; done) | rfl
set_option maxRecDepth 65536 in
set_option maxHeartbeats 40000000 in
theorem own_orR (l : Launch) (Z : State) (a0 : Array Value) (H : own_Wld Z a0) {cw : List Jvm.Cond} (o : Addr) (r : Addr) (h0 : Heap) (O0 : Ext Z.heap h0) (E_o : Exa Z h0 o "java/util/Optional") (F_o : Fld Z h0 o "java/util/Optional" "value" "Ljava/lang/Object;" (.ref r)) :
    Own.Con l Z consts_1 (⟨"java/util/Optional", "orElse", "(Ljava/lang/Object;)Ljava/lang/Object;"⟩ : MethodName) jdk_32_method_15_code 2 (some (.object "java/lang/Object")) cw ({ frames := 0, cells := 0, slots := 0, locals := 0 } : Room) #[(.ref o), .null] h0 (fun v h => Keep h0 h [] ∧ v = some (.ref r)) := by
  have hw := H.1
  have hW := fun (i : Nat) (w : Jvm.Cond) (e : tables_1[i]? = some w) => hw w (List.mem_of_getElem? e)
  have hCm := H.2.1
  have hSi := H.2.2.1
  have hEL := H.2.2.2
  have hWs : ∀ d ∈ StrChars.Road.words, d.before a0 Z = true := fun d hd => hw d (own_wbackV d hd)
  have hWc : ∀ d ∈ StrChars.Road.wordsChN, d.before a0 Z = true := fun d hd => hw d (own_wchN d hd)
  have hWe : ∀ d ∈ StrChars.Road.wordsEq, d.before a0 Z = true := fun d hd => hw d (own_weqW d hd)
  have hSA : ∀ d ∈ Bundle.stringAtoms, d.before a0 Z = true := fun d hd => hw d (own_wSA d hd)
  refine Own.Con.of own_pn018bce hEL O0 ?_
  intro p e s m below meth c T0 G vm0 hx hby hml hret hnm hG hR S0
  have hz : ∀ L : Array Slot, L.size = 2 → L.size = c.maxLocals := fun L q => q.trans hml.symm
  rw [own_ef_own_orR]
  show G T0 (mkF m 0 #[rv o, .val .null] [])
  refine hG.st (fun t q => XS.aloadN S0.here hx rfl (hb hby own_djdk_32_method_15_code_0) rfl rfl q) ?_
  show G T0 (mkF m 1 #[rv o, .val .null] [(.ref o)])
  refine Own.Sit.getF hG S0 hx (host := "") (Or.inl (hW 84 _ rfl)) Via.refl F_o rfl rfl (hb hby own_djdk_32_method_15_code_1) (fun T292 S292 => ?_)
  show G T292 (mkF m 4 #[rv o, .val .null] [(.ref r)])
  refine hG.st (fun t q => XS.ifnullNo S292.here hx rfl (hb hby own_djdk_32_method_15_code_4) rfl (XS.aloadN S292.here hx rfl (hb hby own_djdk_32_method_15_code_7) rfl rfl q)) ?_
  show G T292 (mkF m 8 #[rv o, .val .null] [(.ref o)])
  refine Own.Sit.getF hG S292 hx (host := "") (Or.inl (hW 84 _ rfl)) Via.refl F_o rfl rfl (hb hby own_djdk_32_method_15_code_8) (fun T293 S293 => ?_)
  show G T293 (mkF m 11 #[rv o, .val .null] [(.ref r)])
  refine hG.st (fun t q => XS.goto S293.here hx rfl (pc0 := 11) (pc' := 15) rfl (hb hby own_djdk_32_method_15_code_11) (by decide) (by decide) q) ?_
  show G T293 (mkF m 15 #[rv o, .val .null] [(.ref r)])
  exact Own.Sit.retO hR S293 hx hret rfl (Or.inr (Or.inr (Or.inr (Or.inr ⟨rfl, rfl, rfl⟩)))) (hb hby own_djdk_32_method_15_code_15) (by decide) (by decide) ⟨(Keep.refl _ _), rfl⟩
theorem own_pn0cac8c : plainFor x = true := by first | exact plainFor_of_name (by first | (simp [plainName, overriddenIn]; done) | decide +kernel) | decide +kernel
theorem own_pd8a894c : parseMethodDescriptor "(IIJI)C" = some ⟨[.int, .int, .long, .int], some .char⟩ := by decide +kernel
theorem own_pde07951 : parseMethodDescriptor "([CI)Ljava/lang/String;" = some ⟨[(.array .char), .int], some (.object "java/lang/String")⟩ := by decide +kernel
theorem own_pdf4991c : parseMethodDescriptor "(Ljava/lang/String;)Ljava/util/Optional;" = some ⟨[(.object "java/lang/String")], some (.object "java/util/Optional")⟩ := by decide +kernel
theorem own_ef_own_law (m : MethodId) (q0 : Int64) (q1 : Int32) (q2 : Int32) : entryFrame m #[(.long q0), (.int q1), (.int q2)] maxLocals = mkF m 0 #[.val (.long q0), .second, iv q1, iv q2, .unset, .unset, .unset, .unset, .unset, .unset, .unset] [] := by first | (simp [entryFrame, mkF, argsToLocals, Value.category, maxLocals]; done) | rfl
set_option maxRecDepth 65536 in
set_option maxHeartbeats 40000000 in
theorem own_law (l : Launch) (Z : State) (a0 : Array Value) (H : own_Wld Z a0) {cw : List Jvm.Cond} (q0 : Int64) (q1 : Int32) (q2 : Int32) {ka kd va sl tl sn tn em : Addr} {kc : ClassId} (N : own_En Z ka kd va sl tl sn tn em kc) (h0 : Heap) (O0 : Ext Z.heap h0) :
    Own.Con l Z consts_1 x code maxLocals ret cw room_1 #[(.long q0), (.int q1), (.int q2)] h0 (fun v h => Keep h0 h [] ∧ v = some (.int 1)) := by
  have hw := H.1
  have hW := fun (i : Nat) (w : Jvm.Cond) (e : tables_1[i]? = some w) => hw w (List.mem_of_getElem? e)
  have hCm := H.2.1
  have hSi := H.2.2.1
  have hEL := H.2.2.2
  have hWs : ∀ d ∈ StrChars.Road.words, d.before a0 Z = true := fun d hd => hw d (own_wbackV d hd)
  have hWc : ∀ d ∈ StrChars.Road.wordsChN, d.before a0 Z = true := fun d hd => hw d (own_wchN d hd)
  have hWe : ∀ d ∈ StrChars.Road.wordsEq, d.before a0 Z = true := fun d hd => hw d (own_weqW d hd)
  have hSA : ∀ d ∈ Bundle.stringAtoms, d.before a0 Z = true := fun d hd => hw d (own_wSA d hd)
  refine Own.Con.of own_pn0cac8c hEL O0 ?_
  intro p e s m below meth c T0 G vm0 hx hby hml hret hnm hG hR S0
  have hz : ∀ L : Array Slot, L.size = maxLocals → L.size = c.maxLocals := fun L q => q.trans hml.symm
  rw [own_ef_own_law]
  show G T0 (mkF m 0 #[.val (.long q0), .second, iv q1, iv q2, .unset, .unset, .unset, .unset, .unset, .unset, .unset] [])
  obtain ⟨Sl, Sn, Sv, Av, Ev, Ekl, Ekn, Fkl, Fkn, Sts, Stn, Se, Ee, Fe⟩ := id N
  refine hG.st (fun t q => XS.iloadN S0.here hx rfl (hb hby at_0) rfl (XS.iconst S0.here hx rfl (hb hby at_1) (XS.iand S0.here hx rfl (hb hby at_2) rfl (XS.istore S0.here hx rfl (hb hby at_3) rfl (l' := #[.val (.long q0), .second, iv q1, iv q2, iv (q2 &&& (3 : Int32)), .unset, .unset, .unset, .unset, .unset, .unset]) rfl (XS.iloadN S0.here hx rfl (hb hby at_5) rfl (XS.iconst S0.here hx rfl (hb hby at_6) q)))))) ?_
  show G T0 (mkF m 7 #[.val (.long q0), .second, iv q1, iv q2, iv (q2 &&& (3 : Int32)), .unset, .unset, .unset, .unset, .unset, .unset] [(.int 2), (.int q2)])
  refine hG.st (fun t q => XS.iushr S0.here hx rfl (hb hby at_7) rfl (XS.iconst S0.here hx rfl (hb hby at_8) (XS.ixor S0.here hx rfl (hb hby at_9) rfl (XS.istore S0.here hx rfl (hb hby at_10) rfl (l' := #[.val (.long q0), .second, iv q1, iv q2, iv (q2 &&& (3 : Int32)), iv (((q2.toUInt32 >>> ((2 : Int32) &&& 31).toUInt32).toInt32) ^^^ (-1 : Int32)), .unset, .unset, .unset, .unset, .unset]) rfl (XS.bipush S0.here hx rfl (hb hby at_12) q))))) ?_
  show G T0 (mkF m 14 #[.val (.long q0), .second, iv q1, iv q2, iv (q2 &&& (3 : Int32)), iv (((q2.toUInt32 >>> ((2 : Int32) &&& 31).toUInt32).toInt32) ^^^ (-1 : Int32)), .unset, .unset, .unset, .unset, .unset] [(.int 8)])
  refine Own.Sit.newP hG S0 hx (aty := .char) (hW 0 _ rfl) rfl (hb hby at_14) rfl (by decide) (cap := 8) (by decide) (by decide) (by decide) (by decide) (fun T294 h294 x294 k294 g_x294 S294 J294 Sf294 (V294 : Arv Z h294 x294 k294 .char (8 : Int32) [(.int 0), (.int 0), (.int 0), (.int 0), (.int 0), (.int 0), (.int 0), (.int 0)] (.int 0)) => ?_)
  have lt_x294 := V294.lt
  have ga_x294 : Z.heap.size ≤ x294 := Nat.le_trans S0.le (Nat.le_of_eq g_x294.symm)
  show G T294 (mkF m 16 #[.val (.long q0), .second, iv q1, iv q2, iv (q2 &&& (3 : Int32)), iv (((q2.toUInt32 >>> ((2 : Int32) &&& 31).toUInt32).toInt32) ^^^ (-1 : Int32)), .unset, .unset, .unset, .unset, .unset] [(.ref x294)])
  refine hG.st (fun t q => XS.astore S294.here hx rfl (hb hby at_16) rfl rfl (l' := #[.val (.long q0), .second, iv q1, iv q2, iv (q2 &&& (3 : Int32)), iv (((q2.toUInt32 >>> ((2 : Int32) &&& 31).toUInt32).toInt32) ^^^ (-1 : Int32)), rv x294, .unset, .unset, .unset, .unset]) rfl (XS.aload S294.here hx rfl (hb hby at_18) rfl rfl (XS.iconst S294.here hx rfl (hb hby at_20) (XS.iload S294.here hx rfl (hb hby at_21) rfl (XS.iconst S294.here hx rfl (hb hby at_23) (XS.lloadN S294.here hx rfl (hb hby at_24) rfl q)))))) ?_
  show G T294 (mkF m 25 #[.val (.long q0), .second, iv q1, iv q2, iv (q2 &&& (3 : Int32)), iv (((q2.toUInt32 >>> ((2 : Int32) &&& 31).toUInt32).toInt32) ^^^ (-1 : Int32)), rv x294, .unset, .unset, .unset, .unset] [(.long q0), (.int 0), (.int (q2 &&& (3 : Int32))), (.int 0), (.ref x294)])
  refine hG.st (fun t q => XS.iload S294.here hx rfl (hb hby at_25) rfl q) ?_
  show G T294 (mkF m 27 #[.val (.long q0), .second, iv q1, iv q2, iv (q2 &&& (3 : Int32)), iv (((q2.toUInt32 >>> ((2 : Int32) &&& 31).toUInt32).toInt32) ^^^ (-1 : Int32)), rv x294, .unset, .unset, .unset, .unset] [(.int (((q2.toUInt32 >>> ((2 : Int32) &&& 31).toUInt32).toInt32) ^^^ (-1 : Int32))), (.long q0), (.int 0), (.int (q2 &&& (3 : Int32))), (.int 0), (.ref x294)])
  refine Own.Sit.callS hG S294 hx hEL (as := [(.int (q2 &&& (3 : Int32))), (.int 0), (.long q0), (.int (((q2.toUInt32 >>> ((2 : Int32) &&& 31).toUInt32).toInt32) ^^^ (-1 : Int32)))]) (hW 1 _ rfl) (hW 2 _ rfl) (hW 3 _ rfl) (hW 4 _ rfl) (by decide) (own_pick0 l Z a0 H (q2 &&& (3 : Int32)) q0 (((q2.toUInt32 >>> ((2 : Int32) &&& 31).toUInt32).toInt32) ^^^ (-1 : Int32)) h294 S294.old) own_pd8a894c rfl rfl (hz _ rfl) (rest := [(.int 0), (.ref x294)]) rfl (W := 2) (by show 2 * 0 + _ ≤ _; exact Nat.le_of_eq rfl) (hb hby at_27) (by decide) (by decide) (by decide) (by decide) (fun v295 vm295 T295 h295 S295 C295 q295 => ?_)
  obtain ⟨K295, c295, rfl, r295⟩ := q295
  have J295 : Own.Stp Z consts_1 vm0 h294 vm295 h295 [] := ⟨K295, C295⟩
  show G T295 (mkF m 30 #[.val (.long q0), .second, iv q1, iv q2, iv (q2 &&& (3 : Int32)), iv (((q2.toUInt32 >>> ((2 : Int32) &&& 31).toUInt32).toInt32) ^^^ (-1 : Int32)), rv x294, .unset, .unset, .unset, .unset] [(.int c295), (.int 0), (.ref x294)])
  have V296 := J295.arv V294 nin0
  refine Own.Sit.stC hG S295 hx V296 ga_x294 ⟨by decide, by decide⟩ 0 rfl (Nat.le_of_ble_eq_true rfl) rfl rfl (hb hby at_30) (fun T297 h297 S297 J297 (V297 : Arv Z h297 x294 k294 .char (8 : Int32) [(.int (nar .char c295)), (.int 0), (.int 0), (.int 0), (.int 0), (.int 0), (.int 0), (.int 0)] (.int 0)) => ?_)
  rw [own_nar r295] at V297
  show G T297 (mkF m 31 #[.val (.long q0), .second, iv q1, iv q2, iv (q2 &&& (3 : Int32)), iv (((q2.toUInt32 >>> ((2 : Int32) &&& 31).toUInt32).toInt32) ^^^ (-1 : Int32)), rv x294, .unset, .unset, .unset, .unset] [])
  refine hG.st (fun t q => XS.aload S297.here hx rfl (hb hby at_31) rfl rfl (XS.iconst S297.here hx rfl (hb hby at_33) (XS.iload S297.here hx rfl (hb hby at_34) rfl (XS.iconst S297.here hx rfl (hb hby at_36) (XS.lloadN S297.here hx rfl (hb hby at_37) rfl (XS.iload S297.here hx rfl (hb hby at_38) rfl q)))))) ?_
  show G T297 (mkF m 40 #[.val (.long q0), .second, iv q1, iv q2, iv (q2 &&& (3 : Int32)), iv (((q2.toUInt32 >>> ((2 : Int32) &&& 31).toUInt32).toInt32) ^^^ (-1 : Int32)), rv x294, .unset, .unset, .unset, .unset] [(.int (((q2.toUInt32 >>> ((2 : Int32) &&& 31).toUInt32).toInt32) ^^^ (-1 : Int32))), (.long q0), (.int 1), (.int (q2 &&& (3 : Int32))), (.int 1), (.ref x294)])
  refine Own.Sit.callS hG S297 hx hEL (as := [(.int (q2 &&& (3 : Int32))), (.int 1), (.long q0), (.int (((q2.toUInt32 >>> ((2 : Int32) &&& 31).toUInt32).toInt32) ^^^ (-1 : Int32)))]) (hW 1 _ rfl) (hW 2 _ rfl) (hW 3 _ rfl) (hW 4 _ rfl) (by decide) (own_pick1 l Z a0 H (q2 &&& (3 : Int32)) q0 (((q2.toUInt32 >>> ((2 : Int32) &&& 31).toUInt32).toInt32) ^^^ (-1 : Int32)) h297 S297.old) own_pd8a894c rfl rfl (hz _ rfl) (rest := [(.int 1), (.ref x294)]) rfl (W := 2) (by show 2 * 0 + _ ≤ _; exact Nat.le_of_eq rfl) (hb hby at_40) (by decide) (by decide) (by decide) (by decide) (fun v298 vm298 T298 h298 S298 C298 q298 => ?_)
  obtain ⟨K298, c298, rfl, r298⟩ := q298
  have J298 : Own.Stp Z consts_1 vm295 h297 vm298 h298 [] := ⟨K298, C298⟩
  show G T298 (mkF m 43 #[.val (.long q0), .second, iv q1, iv q2, iv (q2 &&& (3 : Int32)), iv (((q2.toUInt32 >>> ((2 : Int32) &&& 31).toUInt32).toInt32) ^^^ (-1 : Int32)), rv x294, .unset, .unset, .unset, .unset] [(.int c298), (.int 1), (.ref x294)])
  have V299 := J298.arv V297 nin0
  refine Own.Sit.stC hG S298 hx V299 ga_x294 ⟨by decide, by decide⟩ 1 rfl (Nat.le_of_ble_eq_true rfl) rfl rfl (hb hby at_43) (fun T300 h300 S300 J300 (V300 : Arv Z h300 x294 k294 .char (8 : Int32) [(.int c295), (.int (nar .char c298)), (.int 0), (.int 0), (.int 0), (.int 0), (.int 0), (.int 0)] (.int 0)) => ?_)
  rw [own_nar r298] at V300
  show G T300 (mkF m 44 #[.val (.long q0), .second, iv q1, iv q2, iv (q2 &&& (3 : Int32)), iv (((q2.toUInt32 >>> ((2 : Int32) &&& 31).toUInt32).toInt32) ^^^ (-1 : Int32)), rv x294, .unset, .unset, .unset, .unset] [])
  refine hG.st (fun t q => XS.aload S300.here hx rfl (hb hby at_44) rfl rfl (XS.iconst S300.here hx rfl (hb hby at_46) (XS.iload S300.here hx rfl (hb hby at_47) rfl (XS.iconst S300.here hx rfl (hb hby at_49) (XS.lloadN S300.here hx rfl (hb hby at_50) rfl (XS.iload S300.here hx rfl (hb hby at_51) rfl q)))))) ?_
  show G T300 (mkF m 53 #[.val (.long q0), .second, iv q1, iv q2, iv (q2 &&& (3 : Int32)), iv (((q2.toUInt32 >>> ((2 : Int32) &&& 31).toUInt32).toInt32) ^^^ (-1 : Int32)), rv x294, .unset, .unset, .unset, .unset] [(.int (((q2.toUInt32 >>> ((2 : Int32) &&& 31).toUInt32).toInt32) ^^^ (-1 : Int32))), (.long q0), (.int 2), (.int (q2 &&& (3 : Int32))), (.int 2), (.ref x294)])
  refine Own.Sit.callS hG S300 hx hEL (as := [(.int (q2 &&& (3 : Int32))), (.int 2), (.long q0), (.int (((q2.toUInt32 >>> ((2 : Int32) &&& 31).toUInt32).toInt32) ^^^ (-1 : Int32)))]) (hW 1 _ rfl) (hW 2 _ rfl) (hW 3 _ rfl) (hW 4 _ rfl) (by decide) (own_pick2 l Z a0 H (q2 &&& (3 : Int32)) q0 (((q2.toUInt32 >>> ((2 : Int32) &&& 31).toUInt32).toInt32) ^^^ (-1 : Int32)) h300 S300.old) own_pd8a894c rfl rfl (hz _ rfl) (rest := [(.int 2), (.ref x294)]) rfl (W := 2) (by show 2 * 0 + _ ≤ _; exact Nat.le_of_eq rfl) (hb hby at_53) (by decide) (by decide) (by decide) (by decide) (fun v301 vm301 T301 h301 S301 C301 q301 => ?_)
  obtain ⟨K301, c301, rfl, r301⟩ := q301
  have J301 : Own.Stp Z consts_1 vm298 h300 vm301 h301 [] := ⟨K301, C301⟩
  show G T301 (mkF m 56 #[.val (.long q0), .second, iv q1, iv q2, iv (q2 &&& (3 : Int32)), iv (((q2.toUInt32 >>> ((2 : Int32) &&& 31).toUInt32).toInt32) ^^^ (-1 : Int32)), rv x294, .unset, .unset, .unset, .unset] [(.int c301), (.int 2), (.ref x294)])
  have V302 := J301.arv V300 nin0
  refine Own.Sit.stC hG S301 hx V302 ga_x294 ⟨by decide, by decide⟩ 2 rfl (Nat.le_of_ble_eq_true rfl) rfl rfl (hb hby at_56) (fun T303 h303 S303 J303 (V303 : Arv Z h303 x294 k294 .char (8 : Int32) [(.int c295), (.int c298), (.int (nar .char c301)), (.int 0), (.int 0), (.int 0), (.int 0), (.int 0)] (.int 0)) => ?_)
  rw [own_nar r301] at V303
  show G T303 (mkF m 57 #[.val (.long q0), .second, iv q1, iv q2, iv (q2 &&& (3 : Int32)), iv (((q2.toUInt32 >>> ((2 : Int32) &&& 31).toUInt32).toInt32) ^^^ (-1 : Int32)), rv x294, .unset, .unset, .unset, .unset] [])
  refine hG.st (fun t q => XS.aload S303.here hx rfl (hb hby at_57) rfl rfl (XS.iconst S303.here hx rfl (hb hby at_59) (XS.iload S303.here hx rfl (hb hby at_60) rfl (XS.iconst S303.here hx rfl (hb hby at_62) (XS.lloadN S303.here hx rfl (hb hby at_63) rfl (XS.iload S303.here hx rfl (hb hby at_64) rfl q)))))) ?_
  show G T303 (mkF m 66 #[.val (.long q0), .second, iv q1, iv q2, iv (q2 &&& (3 : Int32)), iv (((q2.toUInt32 >>> ((2 : Int32) &&& 31).toUInt32).toInt32) ^^^ (-1 : Int32)), rv x294, .unset, .unset, .unset, .unset] [(.int (((q2.toUInt32 >>> ((2 : Int32) &&& 31).toUInt32).toInt32) ^^^ (-1 : Int32))), (.long q0), (.int 3), (.int (q2 &&& (3 : Int32))), (.int 3), (.ref x294)])
  refine Own.Sit.callS hG S303 hx hEL (as := [(.int (q2 &&& (3 : Int32))), (.int 3), (.long q0), (.int (((q2.toUInt32 >>> ((2 : Int32) &&& 31).toUInt32).toInt32) ^^^ (-1 : Int32)))]) (hW 1 _ rfl) (hW 2 _ rfl) (hW 3 _ rfl) (hW 4 _ rfl) (by decide) (own_pick3 l Z a0 H (q2 &&& (3 : Int32)) q0 (((q2.toUInt32 >>> ((2 : Int32) &&& 31).toUInt32).toInt32) ^^^ (-1 : Int32)) h303 S303.old) own_pd8a894c rfl rfl (hz _ rfl) (rest := [(.int 3), (.ref x294)]) rfl (W := 2) (by show 2 * 0 + _ ≤ _; exact Nat.le_of_eq rfl) (hb hby at_66) (by decide) (by decide) (by decide) (by decide) (fun v304 vm304 T304 h304 S304 C304 q304 => ?_)
  obtain ⟨K304, c304, rfl, r304⟩ := q304
  have J304 : Own.Stp Z consts_1 vm301 h303 vm304 h304 [] := ⟨K304, C304⟩
  show G T304 (mkF m 69 #[.val (.long q0), .second, iv q1, iv q2, iv (q2 &&& (3 : Int32)), iv (((q2.toUInt32 >>> ((2 : Int32) &&& 31).toUInt32).toInt32) ^^^ (-1 : Int32)), rv x294, .unset, .unset, .unset, .unset] [(.int c304), (.int 3), (.ref x294)])
  have V305 := J304.arv V303 nin0
  refine Own.Sit.stC hG S304 hx V305 ga_x294 ⟨by decide, by decide⟩ 3 rfl (Nat.le_of_ble_eq_true rfl) rfl rfl (hb hby at_69) (fun T306 h306 S306 J306 (V306 : Arv Z h306 x294 k294 .char (8 : Int32) [(.int c295), (.int c298), (.int c301), (.int (nar .char c304)), (.int 0), (.int 0), (.int 0), (.int 0)] (.int 0)) => ?_)
  rw [own_nar r304] at V306
  show G T306 (mkF m 70 #[.val (.long q0), .second, iv q1, iv q2, iv (q2 &&& (3 : Int32)), iv (((q2.toUInt32 >>> ((2 : Int32) &&& 31).toUInt32).toInt32) ^^^ (-1 : Int32)), rv x294, .unset, .unset, .unset, .unset] [])
  refine hG.st (fun t q => XS.aload S306.here hx rfl (hb hby at_70) rfl rfl (XS.iconst S306.here hx rfl (hb hby at_72) (XS.iload S306.here hx rfl (hb hby at_73) rfl (XS.iconst S306.here hx rfl (hb hby at_75) (XS.lloadN S306.here hx rfl (hb hby at_76) rfl (XS.iload S306.here hx rfl (hb hby at_77) rfl q)))))) ?_
  show G T306 (mkF m 79 #[.val (.long q0), .second, iv q1, iv q2, iv (q2 &&& (3 : Int32)), iv (((q2.toUInt32 >>> ((2 : Int32) &&& 31).toUInt32).toInt32) ^^^ (-1 : Int32)), rv x294, .unset, .unset, .unset, .unset] [(.int (((q2.toUInt32 >>> ((2 : Int32) &&& 31).toUInt32).toInt32) ^^^ (-1 : Int32))), (.long q0), (.int 4), (.int (q2 &&& (3 : Int32))), (.int 4), (.ref x294)])
  refine Own.Sit.callS hG S306 hx hEL (as := [(.int (q2 &&& (3 : Int32))), (.int 4), (.long q0), (.int (((q2.toUInt32 >>> ((2 : Int32) &&& 31).toUInt32).toInt32) ^^^ (-1 : Int32)))]) (hW 1 _ rfl) (hW 2 _ rfl) (hW 3 _ rfl) (hW 4 _ rfl) (by decide) (own_pick4 l Z a0 H (q2 &&& (3 : Int32)) q0 (((q2.toUInt32 >>> ((2 : Int32) &&& 31).toUInt32).toInt32) ^^^ (-1 : Int32)) h306 S306.old) own_pd8a894c rfl rfl (hz _ rfl) (rest := [(.int 4), (.ref x294)]) rfl (W := 2) (by show 2 * 0 + _ ≤ _; exact Nat.le_of_eq rfl) (hb hby at_79) (by decide) (by decide) (by decide) (by decide) (fun v307 vm307 T307 h307 S307 C307 q307 => ?_)
  obtain ⟨K307, c307, rfl, r307⟩ := q307
  have J307 : Own.Stp Z consts_1 vm304 h306 vm307 h307 [] := ⟨K307, C307⟩
  show G T307 (mkF m 82 #[.val (.long q0), .second, iv q1, iv q2, iv (q2 &&& (3 : Int32)), iv (((q2.toUInt32 >>> ((2 : Int32) &&& 31).toUInt32).toInt32) ^^^ (-1 : Int32)), rv x294, .unset, .unset, .unset, .unset] [(.int c307), (.int 4), (.ref x294)])
  have V308 := J307.arv V306 nin0
  refine Own.Sit.stC hG S307 hx V308 ga_x294 ⟨by decide, by decide⟩ 4 rfl (Nat.le_of_ble_eq_true rfl) rfl rfl (hb hby at_82) (fun T309 h309 S309 J309 (V309 : Arv Z h309 x294 k294 .char (8 : Int32) [(.int c295), (.int c298), (.int c301), (.int c304), (.int (nar .char c307)), (.int 0), (.int 0), (.int 0)] (.int 0)) => ?_)
  rw [own_nar r307] at V309
  show G T309 (mkF m 83 #[.val (.long q0), .second, iv q1, iv q2, iv (q2 &&& (3 : Int32)), iv (((q2.toUInt32 >>> ((2 : Int32) &&& 31).toUInt32).toInt32) ^^^ (-1 : Int32)), rv x294, .unset, .unset, .unset, .unset] [])
  refine hG.st (fun t q => XS.aload S309.here hx rfl (hb hby at_83) rfl rfl (XS.iconst S309.here hx rfl (hb hby at_85) (XS.iload S309.here hx rfl (hb hby at_86) rfl (XS.iconst S309.here hx rfl (hb hby at_88) (XS.lloadN S309.here hx rfl (hb hby at_89) rfl (XS.iload S309.here hx rfl (hb hby at_90) rfl q)))))) ?_
  show G T309 (mkF m 92 #[.val (.long q0), .second, iv q1, iv q2, iv (q2 &&& (3 : Int32)), iv (((q2.toUInt32 >>> ((2 : Int32) &&& 31).toUInt32).toInt32) ^^^ (-1 : Int32)), rv x294, .unset, .unset, .unset, .unset] [(.int (((q2.toUInt32 >>> ((2 : Int32) &&& 31).toUInt32).toInt32) ^^^ (-1 : Int32))), (.long q0), (.int 5), (.int (q2 &&& (3 : Int32))), (.int 5), (.ref x294)])
  refine Own.Sit.callS hG S309 hx hEL (as := [(.int (q2 &&& (3 : Int32))), (.int 5), (.long q0), (.int (((q2.toUInt32 >>> ((2 : Int32) &&& 31).toUInt32).toInt32) ^^^ (-1 : Int32)))]) (hW 1 _ rfl) (hW 2 _ rfl) (hW 3 _ rfl) (hW 4 _ rfl) (by decide) (own_pick5 l Z a0 H (q2 &&& (3 : Int32)) q0 (((q2.toUInt32 >>> ((2 : Int32) &&& 31).toUInt32).toInt32) ^^^ (-1 : Int32)) h309 S309.old) own_pd8a894c rfl rfl (hz _ rfl) (rest := [(.int 5), (.ref x294)]) rfl (W := 2) (by show 2 * 0 + _ ≤ _; exact Nat.le_of_eq rfl) (hb hby at_92) (by decide) (by decide) (by decide) (by decide) (fun v310 vm310 T310 h310 S310 C310 q310 => ?_)
  obtain ⟨K310, c310, rfl, r310⟩ := q310
  have J310 : Own.Stp Z consts_1 vm307 h309 vm310 h310 [] := ⟨K310, C310⟩
  show G T310 (mkF m 95 #[.val (.long q0), .second, iv q1, iv q2, iv (q2 &&& (3 : Int32)), iv (((q2.toUInt32 >>> ((2 : Int32) &&& 31).toUInt32).toInt32) ^^^ (-1 : Int32)), rv x294, .unset, .unset, .unset, .unset] [(.int c310), (.int 5), (.ref x294)])
  have V311 := J310.arv V309 nin0
  refine Own.Sit.stC hG S310 hx V311 ga_x294 ⟨by decide, by decide⟩ 5 rfl (Nat.le_of_ble_eq_true rfl) rfl rfl (hb hby at_95) (fun T312 h312 S312 J312 (V312 : Arv Z h312 x294 k294 .char (8 : Int32) [(.int c295), (.int c298), (.int c301), (.int c304), (.int c307), (.int (nar .char c310)), (.int 0), (.int 0)] (.int 0)) => ?_)
  rw [own_nar r310] at V312
  show G T312 (mkF m 96 #[.val (.long q0), .second, iv q1, iv q2, iv (q2 &&& (3 : Int32)), iv (((q2.toUInt32 >>> ((2 : Int32) &&& 31).toUInt32).toInt32) ^^^ (-1 : Int32)), rv x294, .unset, .unset, .unset, .unset] [])
  refine hG.st (fun t q => XS.aload S312.here hx rfl (hb hby at_96) rfl rfl (XS.bipush S312.here hx rfl (hb hby at_98) (XS.iload S312.here hx rfl (hb hby at_100) rfl (XS.bipush S312.here hx rfl (hb hby at_102) (XS.lloadN S312.here hx rfl (hb hby at_104) rfl (XS.iload S312.here hx rfl (hb hby at_105) rfl q)))))) ?_
  show G T312 (mkF m 107 #[.val (.long q0), .second, iv q1, iv q2, iv (q2 &&& (3 : Int32)), iv (((q2.toUInt32 >>> ((2 : Int32) &&& 31).toUInt32).toInt32) ^^^ (-1 : Int32)), rv x294, .unset, .unset, .unset, .unset] [(.int (((q2.toUInt32 >>> ((2 : Int32) &&& 31).toUInt32).toInt32) ^^^ (-1 : Int32))), (.long q0), (.int 6), (.int (q2 &&& (3 : Int32))), (.int 6), (.ref x294)])
  refine Own.Sit.callS hG S312 hx hEL (as := [(.int (q2 &&& (3 : Int32))), (.int 6), (.long q0), (.int (((q2.toUInt32 >>> ((2 : Int32) &&& 31).toUInt32).toInt32) ^^^ (-1 : Int32)))]) (hW 1 _ rfl) (hW 2 _ rfl) (hW 3 _ rfl) (hW 4 _ rfl) (by decide) (own_pick6 l Z a0 H (q2 &&& (3 : Int32)) q0 (((q2.toUInt32 >>> ((2 : Int32) &&& 31).toUInt32).toInt32) ^^^ (-1 : Int32)) h312 S312.old) own_pd8a894c rfl rfl (hz _ rfl) (rest := [(.int 6), (.ref x294)]) rfl (W := 2) (by show 2 * 0 + _ ≤ _; exact Nat.le_of_eq rfl) (hb hby at_107) (by decide) (by decide) (by decide) (by decide) (fun v313 vm313 T313 h313 S313 C313 q313 => ?_)
  obtain ⟨K313, c313, rfl, r313⟩ := q313
  have J313 : Own.Stp Z consts_1 vm310 h312 vm313 h313 [] := ⟨K313, C313⟩
  show G T313 (mkF m 110 #[.val (.long q0), .second, iv q1, iv q2, iv (q2 &&& (3 : Int32)), iv (((q2.toUInt32 >>> ((2 : Int32) &&& 31).toUInt32).toInt32) ^^^ (-1 : Int32)), rv x294, .unset, .unset, .unset, .unset] [(.int c313), (.int 6), (.ref x294)])
  have V314 := J313.arv V312 nin0
  refine Own.Sit.stC hG S313 hx V314 ga_x294 ⟨by decide, by decide⟩ 6 rfl (Nat.le_of_ble_eq_true rfl) rfl rfl (hb hby at_110) (fun T315 h315 S315 J315 (V315 : Arv Z h315 x294 k294 .char (8 : Int32) [(.int c295), (.int c298), (.int c301), (.int c304), (.int c307), (.int c310), (.int (nar .char c313)), (.int 0)] (.int 0)) => ?_)
  rw [own_nar r313] at V315
  show G T315 (mkF m 111 #[.val (.long q0), .second, iv q1, iv q2, iv (q2 &&& (3 : Int32)), iv (((q2.toUInt32 >>> ((2 : Int32) &&& 31).toUInt32).toInt32) ^^^ (-1 : Int32)), rv x294, .unset, .unset, .unset, .unset] [])
  refine hG.st (fun t q => XS.aload S315.here hx rfl (hb hby at_111) rfl rfl (XS.bipush S315.here hx rfl (hb hby at_113) (XS.iload S315.here hx rfl (hb hby at_115) rfl (XS.bipush S315.here hx rfl (hb hby at_117) (XS.lloadN S315.here hx rfl (hb hby at_119) rfl (XS.iload S315.here hx rfl (hb hby at_120) rfl q)))))) ?_
  show G T315 (mkF m 122 #[.val (.long q0), .second, iv q1, iv q2, iv (q2 &&& (3 : Int32)), iv (((q2.toUInt32 >>> ((2 : Int32) &&& 31).toUInt32).toInt32) ^^^ (-1 : Int32)), rv x294, .unset, .unset, .unset, .unset] [(.int (((q2.toUInt32 >>> ((2 : Int32) &&& 31).toUInt32).toInt32) ^^^ (-1 : Int32))), (.long q0), (.int 7), (.int (q2 &&& (3 : Int32))), (.int 7), (.ref x294)])
  refine Own.Sit.callS hG S315 hx hEL (as := [(.int (q2 &&& (3 : Int32))), (.int 7), (.long q0), (.int (((q2.toUInt32 >>> ((2 : Int32) &&& 31).toUInt32).toInt32) ^^^ (-1 : Int32)))]) (hW 1 _ rfl) (hW 2 _ rfl) (hW 3 _ rfl) (hW 4 _ rfl) (by decide) (own_pick7 l Z a0 H (q2 &&& (3 : Int32)) q0 (((q2.toUInt32 >>> ((2 : Int32) &&& 31).toUInt32).toInt32) ^^^ (-1 : Int32)) h315 S315.old) own_pd8a894c rfl rfl (hz _ rfl) (rest := [(.int 7), (.ref x294)]) rfl (W := 2) (by show 2 * 0 + _ ≤ _; exact Nat.le_of_eq rfl) (hb hby at_122) (by decide) (by decide) (by decide) (by decide) (fun v316 vm316 T316 h316 S316 C316 q316 => ?_)
  obtain ⟨K316, c316, rfl, r316⟩ := q316
  have J316 : Own.Stp Z consts_1 vm313 h315 vm316 h316 [] := ⟨K316, C316⟩
  show G T316 (mkF m 125 #[.val (.long q0), .second, iv q1, iv q2, iv (q2 &&& (3 : Int32)), iv (((q2.toUInt32 >>> ((2 : Int32) &&& 31).toUInt32).toInt32) ^^^ (-1 : Int32)), rv x294, .unset, .unset, .unset, .unset] [(.int c316), (.int 7), (.ref x294)])
  have V317 := J316.arv V315 nin0
  refine Own.Sit.stC hG S316 hx V317 ga_x294 ⟨by decide, by decide⟩ 7 rfl (Nat.le_of_ble_eq_true rfl) rfl rfl (hb hby at_125) (fun T318 h318 S318 J318 (V318 : Arv Z h318 x294 k294 .char (8 : Int32) [(.int c295), (.int c298), (.int c301), (.int c304), (.int c307), (.int c310), (.int c313), (.int (nar .char c316))] (.int 0)) => ?_)
  rw [own_nar r316] at V318
  show G T318 (mkF m 126 #[.val (.long q0), .second, iv q1, iv q2, iv (q2 &&& (3 : Int32)), iv (((q2.toUInt32 >>> ((2 : Int32) &&& 31).toUInt32).toInt32) ^^^ (-1 : Int32)), rv x294, .unset, .unset, .unset, .unset] [])
  refine hG.st (fun t q => XS.iloadN S318.here hx rfl (hb hby at_126) rfl (XS.bipush S318.here hx rfl (hb hby at_127) (XS.iand S318.here hx rfl (hb hby at_129) rfl (XS.istore S318.here hx rfl (hb hby at_130) rfl (l' := #[.val (.long q0), .second, iv q1, iv q2, iv (q2 &&& (3 : Int32)), iv (((q2.toUInt32 >>> ((2 : Int32) &&& 31).toUInt32).toInt32) ^^^ (-1 : Int32)), rv x294, iv (q1 &&& (7 : Int32)), .unset, .unset, .unset]) rfl q)))) ?_
  show G T318 (mkF m 132 #[.val (.long q0), .second, iv q1, iv q2, iv (q2 &&& (3 : Int32)), iv (((q2.toUInt32 >>> ((2 : Int32) &&& 31).toUInt32).toInt32) ^^^ (-1 : Int32)), rv x294, iv (q1 &&& (7 : Int32)), .unset, .unset, .unset] [])
  by_cases hk0 : (q1 &&& (7 : Int32)) = (0 : Int32)
  ·
    rw [hk0]
    show G T318 (mkF m 132 #[.val (.long q0), .second, iv q1, iv q2, iv (q2 &&& (3 : Int32)), iv (((q2.toUInt32 >>> ((2 : Int32) &&& 31).toUInt32).toInt32) ^^^ (-1 : Int32)), rv x294, iv 0, .unset, .unset, .unset] [])
    refine hG.st (fun t q => XS.aload S318.here hx rfl (hb hby at_132) rfl rfl (XS.iload S318.here hx rfl (hb hby at_134) rfl q)) ?_
    show G T318 (mkF m 136 #[.val (.long q0), .second, iv q1, iv q2, iv (q2 &&& (3 : Int32)), iv (((q2.toUInt32 >>> ((2 : Int32) &&& 31).toUInt32).toInt32) ^^^ (-1 : Int32)), rv x294, iv 0, .unset, .unset, .unset] [(.int 0), (.ref x294)])
    refine Own.Sit.callS hG S318 hx hEL (as := [(.ref x294), (.int 0)]) (hW 9 _ rfl) (hW 10 _ rfl) (hW 3 _ rfl) (hW 11 _ rfl) (by decide) (own_str0 l Z a0 H x294 c295 c298 c301 c304 c307 c310 c313 c316 h318 S318.old V318 r295 r298 r301 r304 r307 r310 r313 r316) own_pde07951 rfl rfl (hz _ rfl) (rest := []) rfl (W := 0) (by show 2 * 0 + _ ≤ _; exact Nat.le_of_eq rfl) (hb hby at_136) (by decide) (by decide) (by decide) (by decide) (fun v319 vm319 T319 h319 S319 C319 q319 => ?_)
    obtain ⟨K319, x319, y319, rfl, St319, u319⟩ := q319
    have J319 : Own.Stp Z consts_1 vm316 h318 vm319 h319 [] := ⟨K319, C319⟩
    show G T319 (mkF m 139 #[.val (.long q0), .second, iv q1, iv q2, iv (q2 &&& (3 : Int32)), iv (((q2.toUInt32 >>> ((2 : Int32) &&& 31).toUInt32).toInt32) ^^^ (-1 : Int32)), rv x294, iv 0, .unset, .unset, .unset] [(.ref x319)])
    refine hG.st (fun t q => XS.astore S319.here hx rfl (hb hby at_139) rfl rfl (l' := #[.val (.long q0), .second, iv q1, iv q2, iv (q2 &&& (3 : Int32)), iv (((q2.toUInt32 >>> ((2 : Int32) &&& 31).toUInt32).toInt32) ^^^ (-1 : Int32)), rv x294, iv 0, rv x319, .unset, .unset]) rfl (XS.aconstNull S319.here hx rfl (hb hby at_141) (XS.astore S319.here hx rfl (hb hby at_142) rfl rfl (l' := #[.val (.long q0), .second, iv q1, iv q2, iv (q2 &&& (3 : Int32)), iv (((q2.toUInt32 >>> ((2 : Int32) &&& 31).toUInt32).toInt32) ^^^ (-1 : Int32)), rv x294, iv 0, rv x319, .val .null, .unset]) rfl (XS.iload S319.here hx rfl (hb hby at_144) rfl (XS.iconst S319.here hx rfl (hb hby at_146) (XS.icmpYes S319.here hx rfl (pc0 := 147) (pc' := 182) rfl (hb hby at_147) rfl (feq (by decide : ¬ ((0 : Int32) = (3 : Int32)))).2 (by decide) (by decide) q)))))) ?_
    show G T319 (mkF m 182 #[.val (.long q0), .second, iv q1, iv q2, iv (q2 &&& (3 : Int32)), iv (((q2.toUInt32 >>> ((2 : Int32) &&& 31).toUInt32).toInt32) ^^^ (-1 : Int32)), rv x294, iv 0, rv x319, .val .null, .unset] [])
    refine hG.st (fun t q => XS.iload S319.here hx rfl (hb hby at_182) rfl (XS.bipush S319.here hx rfl (hb hby at_184) (XS.icmpYes S319.here hx rfl (pc0 := 186) (pc' := 248) rfl (hb hby at_186) rfl (feq (by decide : ¬ ((0 : Int32) = (6 : Int32)))).2 (by decide) (by decide) (XS.aload S319.here hx rfl (hb hby at_248) rfl rfl q)))) ?_
    show G T319 (mkF m 250 #[.val (.long q0), .second, iv q1, iv q2, iv (q2 &&& (3 : Int32)), iv (((q2.toUInt32 >>> ((2 : Int32) &&& 31).toUInt32).toInt32) ^^^ (-1 : Int32)), rv x294, iv 0, rv x319, .val .null, .unset] [(.ref x319)])
    refine Own.Sit.callS hG S319 hx hEL (as := [(.ref x319)]) (hW 41 _ rfl) (hW 42 _ rfl) (hW 43 _ rfl) (hW 44 _ rfl) (by decide) (own_named l Z a0 H x319 N y319 ([] : List Int32) h319 S319.old St319) own_pdf4991c rfl rfl (hz _ rfl) (rest := []) rfl (W := 0) (by show 2 * 0 + _ ≤ _; exact Nat.le_of_eq rfl) (hb hby at_250) (by decide) (by decide) (by decide) (by decide) (fun v320 vm320 T320 h320 S320 C320 q320 => ?_)
    obtain ⟨K320, o320, rfl, E320, qq320⟩ := q320
    have J320 : Own.Stp Z consts_1 vm319 h319 vm320 h320 [] := ⟨K320, C320⟩
    rcases qq320 with ⟨qa320, F320⟩ | ⟨qa320, F320⟩ | ⟨qa320, F320⟩
    ·
      simp at qa320
    ·
      simp at qa320
    ·
      show G T320 (mkF m 253 #[.val (.long q0), .second, iv q1, iv q2, iv (q2 &&& (3 : Int32)), iv (((q2.toUInt32 >>> ((2 : Int32) &&& 31).toUInt32).toInt32) ^^^ (-1 : Int32)), rv x294, iv 0, rv x319, .val .null, .unset] [(.ref o320)])
      refine hG.st (fun t q => XS.aconstNull S320.here hx rfl (hb hby at_253) q) ?_
      show G T320 (mkF m 254 #[.val (.long q0), .second, iv q1, iv q2, iv (q2 &&& (3 : Int32)), iv (((q2.toUInt32 >>> ((2 : Int32) &&& 31).toUInt32).toInt32) ^^^ (-1 : Int32)), rv x294, iv 0, rv x319, .val .null, .unset] [.null, (.ref o320)])
      refine Own.Sit.callV hG S320 hx hEL (as := [.null]) (hW 79 _ rfl) (hW 80 _ rfl) (hW 82 _ rfl) (hW 81 _ rfl) (hW 76 _ rfl) (hW 83 _ rfl) (by decide) E320 (own_orN l Z a0 H o320 h320 S320.old E320 F320) own_pdc2743d rfl rfl (hz _ rfl) (rest := []) rfl (W := 0) (by show 2 * 0 + _ ≤ _; exact Nat.le_of_eq rfl) (hb hby at_254) (by decide) (by decide) (by decide) (by decide) (fun v321 vm321 T321 h321 S321 C321 q321 => ?_)
      obtain ⟨K321, rfl⟩ := q321
      have J321 : Own.Stp Z consts_1 vm320 h320 vm321 h321 [] := ⟨K321, C321⟩
      show G T321 (mkF m 257 #[.val (.long q0), .second, iv q1, iv q2, iv (q2 &&& (3 : Int32)), iv (((q2.toUInt32 >>> ((2 : Int32) &&& 31).toUInt32).toInt32) ^^^ (-1 : Int32)), rv x294, iv 0, rv x319, .val .null, .unset] [.null])
      refine Own.Sit.castNull hG S321 hx rfl rfl (hb hby at_257) ?_
      show G T321 (mkF m 260 #[.val (.long q0), .second, iv q1, iv q2, iv (q2 &&& (3 : Int32)), iv (((q2.toUInt32 >>> ((2 : Int32) &&& 31).toUInt32).toInt32) ^^^ (-1 : Int32)), rv x294, iv 0, rv x319, .val .null, .unset] [.null])
      refine hG.st (fun t q => XS.astore S321.here hx rfl (hb hby at_260) rfl rfl (l' := #[.val (.long q0), .second, iv q1, iv q2, iv (q2 &&& (3 : Int32)), iv (((q2.toUInt32 >>> ((2 : Int32) &&& 31).toUInt32).toInt32) ^^^ (-1 : Int32)), rv x294, iv 0, rv x319, .val .null, .val .null]) rfl (XS.aload S321.here hx rfl (hb hby at_262) rfl rfl (XS.aload S321.here hx rfl (hb hby at_264) rfl rfl q))) ?_
      show G T321 (mkF m 266 #[.val (.long q0), .second, iv q1, iv q2, iv (q2 &&& (3 : Int32)), iv (((q2.toUInt32 >>> ((2 : Int32) &&& 31).toUInt32).toInt32) ^^^ (-1 : Int32)), rv x294, iv 0, rv x319, .val .null, .val .null] [.null, .null])
      refine Own.Sit.acmp hG S321 hx (g := (mkF m 266 #[.val (.long q0), .second, iv q1, iv q2, iv (q2 &&& (3 : Int32)), iv (((q2.toUInt32 >>> ((2 : Int32) &&& 31).toUInt32).toInt32) ^^^ (-1 : Int32)), rv x294, iv 0, rv x319, .val .null, .val .null] [.null, .null])) rfl rfl rfl (pc0 := 266) (pc' := 269) (same := true) rfl (hb hby at_266) rfl (decide_eq_true rfl) (by decide) (by decide) ?_
      show G T321 (mkF m 269 #[.val (.long q0), .second, iv q1, iv q2, iv (q2 &&& (3 : Int32)), iv (((q2.toUInt32 >>> ((2 : Int32) &&& 31).toUInt32).toInt32) ^^^ (-1 : Int32)), rv x294, iv 0, rv x319, .val .null, .val .null] [])
      refine hG.st (fun t q => XS.iconst S321.here hx rfl (hb hby at_269) (XS.goto S321.here hx rfl (pc0 := 270) (pc' := 274) rfl (hb hby at_270) (by decide) (by decide) q)) ?_
      show G T321 (mkF m 274 #[.val (.long q0), .second, iv q1, iv q2, iv (q2 &&& (3 : Int32)), iv (((q2.toUInt32 >>> ((2 : Int32) &&& 31).toUInt32).toInt32) ^^^ (-1 : Int32)), rv x294, iv 0, rv x319, .val .null, .val .null] [(.int 1)])
      have J322 : Own.Stp Z consts_1 vm0 h0 vm295 h295 [] := Own.Stp.trans J294 J295 (all0) all0
      have J323 : Own.Stp Z consts_1 vm0 h0 vm295 h297 [] := Own.Stp.trans J322 J297 (all0) (allS (Or.inr (Nat.le_of_eq g_x294.symm)) all0)
      have J324 : Own.Stp Z consts_1 vm0 h0 vm298 h298 [] := Own.Stp.trans J323 J298 (all0) all0
      have J325 : Own.Stp Z consts_1 vm0 h0 vm298 h300 [] := Own.Stp.trans J324 J300 (all0) (allS (Or.inr (Nat.le_of_eq g_x294.symm)) all0)
      have J326 : Own.Stp Z consts_1 vm0 h0 vm301 h301 [] := Own.Stp.trans J325 J301 (all0) all0
      have J327 : Own.Stp Z consts_1 vm0 h0 vm301 h303 [] := Own.Stp.trans J326 J303 (all0) (allS (Or.inr (Nat.le_of_eq g_x294.symm)) all0)
      have J328 : Own.Stp Z consts_1 vm0 h0 vm304 h304 [] := Own.Stp.trans J327 J304 (all0) all0
      have J329 : Own.Stp Z consts_1 vm0 h0 vm304 h306 [] := Own.Stp.trans J328 J306 (all0) (allS (Or.inr (Nat.le_of_eq g_x294.symm)) all0)
      have J330 : Own.Stp Z consts_1 vm0 h0 vm307 h307 [] := Own.Stp.trans J329 J307 (all0) all0
      have J331 : Own.Stp Z consts_1 vm0 h0 vm307 h309 [] := Own.Stp.trans J330 J309 (all0) (allS (Or.inr (Nat.le_of_eq g_x294.symm)) all0)
      have J332 : Own.Stp Z consts_1 vm0 h0 vm310 h310 [] := Own.Stp.trans J331 J310 (all0) all0
      have J333 : Own.Stp Z consts_1 vm0 h0 vm310 h312 [] := Own.Stp.trans J332 J312 (all0) (allS (Or.inr (Nat.le_of_eq g_x294.symm)) all0)
      have J334 : Own.Stp Z consts_1 vm0 h0 vm313 h313 [] := Own.Stp.trans J333 J313 (all0) all0
      have J335 : Own.Stp Z consts_1 vm0 h0 vm313 h315 [] := Own.Stp.trans J334 J315 (all0) (allS (Or.inr (Nat.le_of_eq g_x294.symm)) all0)
      have J336 : Own.Stp Z consts_1 vm0 h0 vm316 h316 [] := Own.Stp.trans J335 J316 (all0) all0
      have J337 : Own.Stp Z consts_1 vm0 h0 vm316 h318 [] := Own.Stp.trans J336 J318 (all0) (allS (Or.inr (Nat.le_of_eq g_x294.symm)) all0)
      have J338 : Own.Stp Z consts_1 vm0 h0 vm319 h319 [] := Own.Stp.trans J337 J319 (all0) all0
      have J339 : Own.Stp Z consts_1 vm0 h0 vm320 h320 [] := Own.Stp.trans J338 J320 (all0) all0
      have J340 : Own.Stp Z consts_1 vm0 h0 vm321 h321 [] := Own.Stp.trans J339 J321 (all0) all0
      exact Own.Sit.retN hR S321 hx (t := .boolean) hret (by simp) (hb hby at_274) (by decide) (by decide) ⟨J340.1, rfl⟩
  by_cases hk1 : (q1 &&& (7 : Int32)) = (1 : Int32)
  ·
    rw [hk1]
    show G T318 (mkF m 132 #[.val (.long q0), .second, iv q1, iv q2, iv (q2 &&& (3 : Int32)), iv (((q2.toUInt32 >>> ((2 : Int32) &&& 31).toUInt32).toInt32) ^^^ (-1 : Int32)), rv x294, iv 1, .unset, .unset, .unset] [])
    refine hG.st (fun t q => XS.aload S318.here hx rfl (hb hby at_132) rfl rfl (XS.iload S318.here hx rfl (hb hby at_134) rfl q)) ?_
    show G T318 (mkF m 136 #[.val (.long q0), .second, iv q1, iv q2, iv (q2 &&& (3 : Int32)), iv (((q2.toUInt32 >>> ((2 : Int32) &&& 31).toUInt32).toInt32) ^^^ (-1 : Int32)), rv x294, iv 1, .unset, .unset, .unset] [(.int 1), (.ref x294)])
    refine Own.Sit.callS hG S318 hx hEL (as := [(.ref x294), (.int 1)]) (hW 9 _ rfl) (hW 10 _ rfl) (hW 3 _ rfl) (hW 11 _ rfl) (by decide) (own_str1 l Z a0 H x294 c295 c298 c301 c304 c307 c310 c313 c316 h318 S318.old V318 r295 r298 r301 r304 r307 r310 r313 r316) own_pde07951 rfl rfl (hz _ rfl) (rest := []) rfl (W := 0) (by show 2 * 0 + _ ≤ _; exact Nat.le_of_eq rfl) (hb hby at_136) (by decide) (by decide) (by decide) (by decide) (fun v341 vm341 T341 h341 S341 C341 q341 => ?_)
    obtain ⟨K341, x341, y341, rfl, St341, u341⟩ := q341
    have J341 : Own.Stp Z consts_1 vm316 h318 vm341 h341 [] := ⟨K341, C341⟩
    show G T341 (mkF m 139 #[.val (.long q0), .second, iv q1, iv q2, iv (q2 &&& (3 : Int32)), iv (((q2.toUInt32 >>> ((2 : Int32) &&& 31).toUInt32).toInt32) ^^^ (-1 : Int32)), rv x294, iv 1, .unset, .unset, .unset] [(.ref x341)])
    refine hG.st (fun t q => XS.astore S341.here hx rfl (hb hby at_139) rfl rfl (l' := #[.val (.long q0), .second, iv q1, iv q2, iv (q2 &&& (3 : Int32)), iv (((q2.toUInt32 >>> ((2 : Int32) &&& 31).toUInt32).toInt32) ^^^ (-1 : Int32)), rv x294, iv 1, rv x341, .unset, .unset]) rfl (XS.aconstNull S341.here hx rfl (hb hby at_141) (XS.astore S341.here hx rfl (hb hby at_142) rfl rfl (l' := #[.val (.long q0), .second, iv q1, iv q2, iv (q2 &&& (3 : Int32)), iv (((q2.toUInt32 >>> ((2 : Int32) &&& 31).toUInt32).toInt32) ^^^ (-1 : Int32)), rv x294, iv 1, rv x341, .val .null, .unset]) rfl (XS.iload S341.here hx rfl (hb hby at_144) rfl (XS.iconst S341.here hx rfl (hb hby at_146) (XS.icmpYes S341.here hx rfl (pc0 := 147) (pc' := 182) rfl (hb hby at_147) rfl (feq (by decide : ¬ ((1 : Int32) = (3 : Int32)))).2 (by decide) (by decide) q)))))) ?_
    show G T341 (mkF m 182 #[.val (.long q0), .second, iv q1, iv q2, iv (q2 &&& (3 : Int32)), iv (((q2.toUInt32 >>> ((2 : Int32) &&& 31).toUInt32).toInt32) ^^^ (-1 : Int32)), rv x294, iv 1, rv x341, .val .null, .unset] [])
    refine hG.st (fun t q => XS.iload S341.here hx rfl (hb hby at_182) rfl (XS.bipush S341.here hx rfl (hb hby at_184) (XS.icmpYes S341.here hx rfl (pc0 := 186) (pc' := 248) rfl (hb hby at_186) rfl (feq (by decide : ¬ ((1 : Int32) = (6 : Int32)))).2 (by decide) (by decide) (XS.aload S341.here hx rfl (hb hby at_248) rfl rfl q)))) ?_
    show G T341 (mkF m 250 #[.val (.long q0), .second, iv q1, iv q2, iv (q2 &&& (3 : Int32)), iv (((q2.toUInt32 >>> ((2 : Int32) &&& 31).toUInt32).toInt32) ^^^ (-1 : Int32)), rv x294, iv 1, rv x341, .val .null, .unset] [(.ref x341)])
    refine Own.Sit.callS hG S341 hx hEL (as := [(.ref x341)]) (hW 41 _ rfl) (hW 42 _ rfl) (hW 43 _ rfl) (hW 44 _ rfl) (by decide) (own_named l Z a0 H x341 N y341 ([c295] : List Int32) h341 S341.old St341) own_pdf4991c rfl rfl (hz _ rfl) (rest := []) rfl (W := 0) (by show 2 * 0 + _ ≤ _; exact Nat.le_of_eq rfl) (hb hby at_250) (by decide) (by decide) (by decide) (by decide) (fun v342 vm342 T342 h342 S342 C342 q342 => ?_)
    obtain ⟨K342, o342, rfl, E342, qq342⟩ := q342
    have J342 : Own.Stp Z consts_1 vm341 h341 vm342 h342 [] := ⟨K342, C342⟩
    rcases qq342 with ⟨qa342, F342⟩ | ⟨qa342, F342⟩ | ⟨qa342, F342⟩
    ·
      simp at qa342
    ·
      simp at qa342
    ·
      show G T342 (mkF m 253 #[.val (.long q0), .second, iv q1, iv q2, iv (q2 &&& (3 : Int32)), iv (((q2.toUInt32 >>> ((2 : Int32) &&& 31).toUInt32).toInt32) ^^^ (-1 : Int32)), rv x294, iv 1, rv x341, .val .null, .unset] [(.ref o342)])
      refine hG.st (fun t q => XS.aconstNull S342.here hx rfl (hb hby at_253) q) ?_
      show G T342 (mkF m 254 #[.val (.long q0), .second, iv q1, iv q2, iv (q2 &&& (3 : Int32)), iv (((q2.toUInt32 >>> ((2 : Int32) &&& 31).toUInt32).toInt32) ^^^ (-1 : Int32)), rv x294, iv 1, rv x341, .val .null, .unset] [.null, (.ref o342)])
      refine Own.Sit.callV hG S342 hx hEL (as := [.null]) (hW 79 _ rfl) (hW 80 _ rfl) (hW 82 _ rfl) (hW 81 _ rfl) (hW 76 _ rfl) (hW 83 _ rfl) (by decide) E342 (own_orN l Z a0 H o342 h342 S342.old E342 F342) own_pdc2743d rfl rfl (hz _ rfl) (rest := []) rfl (W := 0) (by show 2 * 0 + _ ≤ _; exact Nat.le_of_eq rfl) (hb hby at_254) (by decide) (by decide) (by decide) (by decide) (fun v343 vm343 T343 h343 S343 C343 q343 => ?_)
      obtain ⟨K343, rfl⟩ := q343
      have J343 : Own.Stp Z consts_1 vm342 h342 vm343 h343 [] := ⟨K343, C343⟩
      show G T343 (mkF m 257 #[.val (.long q0), .second, iv q1, iv q2, iv (q2 &&& (3 : Int32)), iv (((q2.toUInt32 >>> ((2 : Int32) &&& 31).toUInt32).toInt32) ^^^ (-1 : Int32)), rv x294, iv 1, rv x341, .val .null, .unset] [.null])
      refine Own.Sit.castNull hG S343 hx rfl rfl (hb hby at_257) ?_
      show G T343 (mkF m 260 #[.val (.long q0), .second, iv q1, iv q2, iv (q2 &&& (3 : Int32)), iv (((q2.toUInt32 >>> ((2 : Int32) &&& 31).toUInt32).toInt32) ^^^ (-1 : Int32)), rv x294, iv 1, rv x341, .val .null, .unset] [.null])
      refine hG.st (fun t q => XS.astore S343.here hx rfl (hb hby at_260) rfl rfl (l' := #[.val (.long q0), .second, iv q1, iv q2, iv (q2 &&& (3 : Int32)), iv (((q2.toUInt32 >>> ((2 : Int32) &&& 31).toUInt32).toInt32) ^^^ (-1 : Int32)), rv x294, iv 1, rv x341, .val .null, .val .null]) rfl (XS.aload S343.here hx rfl (hb hby at_262) rfl rfl (XS.aload S343.here hx rfl (hb hby at_264) rfl rfl q))) ?_
      show G T343 (mkF m 266 #[.val (.long q0), .second, iv q1, iv q2, iv (q2 &&& (3 : Int32)), iv (((q2.toUInt32 >>> ((2 : Int32) &&& 31).toUInt32).toInt32) ^^^ (-1 : Int32)), rv x294, iv 1, rv x341, .val .null, .val .null] [.null, .null])
      refine Own.Sit.acmp hG S343 hx (g := (mkF m 266 #[.val (.long q0), .second, iv q1, iv q2, iv (q2 &&& (3 : Int32)), iv (((q2.toUInt32 >>> ((2 : Int32) &&& 31).toUInt32).toInt32) ^^^ (-1 : Int32)), rv x294, iv 1, rv x341, .val .null, .val .null] [.null, .null])) rfl rfl rfl (pc0 := 266) (pc' := 269) (same := true) rfl (hb hby at_266) rfl (decide_eq_true rfl) (by decide) (by decide) ?_
      show G T343 (mkF m 269 #[.val (.long q0), .second, iv q1, iv q2, iv (q2 &&& (3 : Int32)), iv (((q2.toUInt32 >>> ((2 : Int32) &&& 31).toUInt32).toInt32) ^^^ (-1 : Int32)), rv x294, iv 1, rv x341, .val .null, .val .null] [])
      refine hG.st (fun t q => XS.iconst S343.here hx rfl (hb hby at_269) (XS.goto S343.here hx rfl (pc0 := 270) (pc' := 274) rfl (hb hby at_270) (by decide) (by decide) q)) ?_
      show G T343 (mkF m 274 #[.val (.long q0), .second, iv q1, iv q2, iv (q2 &&& (3 : Int32)), iv (((q2.toUInt32 >>> ((2 : Int32) &&& 31).toUInt32).toInt32) ^^^ (-1 : Int32)), rv x294, iv 1, rv x341, .val .null, .val .null] [(.int 1)])
      have J344 : Own.Stp Z consts_1 vm0 h0 vm295 h295 [] := Own.Stp.trans J294 J295 (all0) all0
      have J345 : Own.Stp Z consts_1 vm0 h0 vm295 h297 [] := Own.Stp.trans J344 J297 (all0) (allS (Or.inr (Nat.le_of_eq g_x294.symm)) all0)
      have J346 : Own.Stp Z consts_1 vm0 h0 vm298 h298 [] := Own.Stp.trans J345 J298 (all0) all0
      have J347 : Own.Stp Z consts_1 vm0 h0 vm298 h300 [] := Own.Stp.trans J346 J300 (all0) (allS (Or.inr (Nat.le_of_eq g_x294.symm)) all0)
      have J348 : Own.Stp Z consts_1 vm0 h0 vm301 h301 [] := Own.Stp.trans J347 J301 (all0) all0
      have J349 : Own.Stp Z consts_1 vm0 h0 vm301 h303 [] := Own.Stp.trans J348 J303 (all0) (allS (Or.inr (Nat.le_of_eq g_x294.symm)) all0)
      have J350 : Own.Stp Z consts_1 vm0 h0 vm304 h304 [] := Own.Stp.trans J349 J304 (all0) all0
      have J351 : Own.Stp Z consts_1 vm0 h0 vm304 h306 [] := Own.Stp.trans J350 J306 (all0) (allS (Or.inr (Nat.le_of_eq g_x294.symm)) all0)
      have J352 : Own.Stp Z consts_1 vm0 h0 vm307 h307 [] := Own.Stp.trans J351 J307 (all0) all0
      have J353 : Own.Stp Z consts_1 vm0 h0 vm307 h309 [] := Own.Stp.trans J352 J309 (all0) (allS (Or.inr (Nat.le_of_eq g_x294.symm)) all0)
      have J354 : Own.Stp Z consts_1 vm0 h0 vm310 h310 [] := Own.Stp.trans J353 J310 (all0) all0
      have J355 : Own.Stp Z consts_1 vm0 h0 vm310 h312 [] := Own.Stp.trans J354 J312 (all0) (allS (Or.inr (Nat.le_of_eq g_x294.symm)) all0)
      have J356 : Own.Stp Z consts_1 vm0 h0 vm313 h313 [] := Own.Stp.trans J355 J313 (all0) all0
      have J357 : Own.Stp Z consts_1 vm0 h0 vm313 h315 [] := Own.Stp.trans J356 J315 (all0) (allS (Or.inr (Nat.le_of_eq g_x294.symm)) all0)
      have J358 : Own.Stp Z consts_1 vm0 h0 vm316 h316 [] := Own.Stp.trans J357 J316 (all0) all0
      have J359 : Own.Stp Z consts_1 vm0 h0 vm316 h318 [] := Own.Stp.trans J358 J318 (all0) (allS (Or.inr (Nat.le_of_eq g_x294.symm)) all0)
      have J360 : Own.Stp Z consts_1 vm0 h0 vm341 h341 [] := Own.Stp.trans J359 J341 (all0) all0
      have J361 : Own.Stp Z consts_1 vm0 h0 vm342 h342 [] := Own.Stp.trans J360 J342 (all0) all0
      have J362 : Own.Stp Z consts_1 vm0 h0 vm343 h343 [] := Own.Stp.trans J361 J343 (all0) all0
      exact Own.Sit.retN hR S343 hx (t := .boolean) hret (by simp) (hb hby at_274) (by decide) (by decide) ⟨J362.1, rfl⟩
  by_cases hk2 : (q1 &&& (7 : Int32)) = (2 : Int32)
  ·
    rw [hk2]
    show G T318 (mkF m 132 #[.val (.long q0), .second, iv q1, iv q2, iv (q2 &&& (3 : Int32)), iv (((q2.toUInt32 >>> ((2 : Int32) &&& 31).toUInt32).toInt32) ^^^ (-1 : Int32)), rv x294, iv 2, .unset, .unset, .unset] [])
    refine hG.st (fun t q => XS.aload S318.here hx rfl (hb hby at_132) rfl rfl (XS.iload S318.here hx rfl (hb hby at_134) rfl q)) ?_
    show G T318 (mkF m 136 #[.val (.long q0), .second, iv q1, iv q2, iv (q2 &&& (3 : Int32)), iv (((q2.toUInt32 >>> ((2 : Int32) &&& 31).toUInt32).toInt32) ^^^ (-1 : Int32)), rv x294, iv 2, .unset, .unset, .unset] [(.int 2), (.ref x294)])
    refine Own.Sit.callS hG S318 hx hEL (as := [(.ref x294), (.int 2)]) (hW 9 _ rfl) (hW 10 _ rfl) (hW 3 _ rfl) (hW 11 _ rfl) (by decide) (own_str2 l Z a0 H x294 c295 c298 c301 c304 c307 c310 c313 c316 h318 S318.old V318 r295 r298 r301 r304 r307 r310 r313 r316) own_pde07951 rfl rfl (hz _ rfl) (rest := []) rfl (W := 0) (by show 2 * 0 + _ ≤ _; exact Nat.le_of_eq rfl) (hb hby at_136) (by decide) (by decide) (by decide) (by decide) (fun v363 vm363 T363 h363 S363 C363 q363 => ?_)
    obtain ⟨K363, x363, y363, rfl, St363, u363⟩ := q363
    have J363 : Own.Stp Z consts_1 vm316 h318 vm363 h363 [] := ⟨K363, C363⟩
    show G T363 (mkF m 139 #[.val (.long q0), .second, iv q1, iv q2, iv (q2 &&& (3 : Int32)), iv (((q2.toUInt32 >>> ((2 : Int32) &&& 31).toUInt32).toInt32) ^^^ (-1 : Int32)), rv x294, iv 2, .unset, .unset, .unset] [(.ref x363)])
    refine hG.st (fun t q => XS.astore S363.here hx rfl (hb hby at_139) rfl rfl (l' := #[.val (.long q0), .second, iv q1, iv q2, iv (q2 &&& (3 : Int32)), iv (((q2.toUInt32 >>> ((2 : Int32) &&& 31).toUInt32).toInt32) ^^^ (-1 : Int32)), rv x294, iv 2, rv x363, .unset, .unset]) rfl (XS.aconstNull S363.here hx rfl (hb hby at_141) (XS.astore S363.here hx rfl (hb hby at_142) rfl rfl (l' := #[.val (.long q0), .second, iv q1, iv q2, iv (q2 &&& (3 : Int32)), iv (((q2.toUInt32 >>> ((2 : Int32) &&& 31).toUInt32).toInt32) ^^^ (-1 : Int32)), rv x294, iv 2, rv x363, .val .null, .unset]) rfl (XS.iload S363.here hx rfl (hb hby at_144) rfl (XS.iconst S363.here hx rfl (hb hby at_146) (XS.icmpYes S363.here hx rfl (pc0 := 147) (pc' := 182) rfl (hb hby at_147) rfl (feq (by decide : ¬ ((2 : Int32) = (3 : Int32)))).2 (by decide) (by decide) q)))))) ?_
    show G T363 (mkF m 182 #[.val (.long q0), .second, iv q1, iv q2, iv (q2 &&& (3 : Int32)), iv (((q2.toUInt32 >>> ((2 : Int32) &&& 31).toUInt32).toInt32) ^^^ (-1 : Int32)), rv x294, iv 2, rv x363, .val .null, .unset] [])
    refine hG.st (fun t q => XS.iload S363.here hx rfl (hb hby at_182) rfl (XS.bipush S363.here hx rfl (hb hby at_184) (XS.icmpYes S363.here hx rfl (pc0 := 186) (pc' := 248) rfl (hb hby at_186) rfl (feq (by decide : ¬ ((2 : Int32) = (6 : Int32)))).2 (by decide) (by decide) (XS.aload S363.here hx rfl (hb hby at_248) rfl rfl q)))) ?_
    show G T363 (mkF m 250 #[.val (.long q0), .second, iv q1, iv q2, iv (q2 &&& (3 : Int32)), iv (((q2.toUInt32 >>> ((2 : Int32) &&& 31).toUInt32).toInt32) ^^^ (-1 : Int32)), rv x294, iv 2, rv x363, .val .null, .unset] [(.ref x363)])
    refine Own.Sit.callS hG S363 hx hEL (as := [(.ref x363)]) (hW 41 _ rfl) (hW 42 _ rfl) (hW 43 _ rfl) (hW 44 _ rfl) (by decide) (own_named l Z a0 H x363 N y363 ([c295, c298] : List Int32) h363 S363.old St363) own_pdf4991c rfl rfl (hz _ rfl) (rest := []) rfl (W := 0) (by show 2 * 0 + _ ≤ _; exact Nat.le_of_eq rfl) (hb hby at_250) (by decide) (by decide) (by decide) (by decide) (fun v364 vm364 T364 h364 S364 C364 q364 => ?_)
    obtain ⟨K364, o364, rfl, E364, qq364⟩ := q364
    have J364 : Own.Stp Z consts_1 vm363 h363 vm364 h364 [] := ⟨K364, C364⟩
    rcases qq364 with ⟨qa364, F364⟩ | ⟨qa364, F364⟩ | ⟨qa364, F364⟩
    ·
      simp at qa364
    ·
      simp at qa364
    ·
      show G T364 (mkF m 253 #[.val (.long q0), .second, iv q1, iv q2, iv (q2 &&& (3 : Int32)), iv (((q2.toUInt32 >>> ((2 : Int32) &&& 31).toUInt32).toInt32) ^^^ (-1 : Int32)), rv x294, iv 2, rv x363, .val .null, .unset] [(.ref o364)])
      refine hG.st (fun t q => XS.aconstNull S364.here hx rfl (hb hby at_253) q) ?_
      show G T364 (mkF m 254 #[.val (.long q0), .second, iv q1, iv q2, iv (q2 &&& (3 : Int32)), iv (((q2.toUInt32 >>> ((2 : Int32) &&& 31).toUInt32).toInt32) ^^^ (-1 : Int32)), rv x294, iv 2, rv x363, .val .null, .unset] [.null, (.ref o364)])
      refine Own.Sit.callV hG S364 hx hEL (as := [.null]) (hW 79 _ rfl) (hW 80 _ rfl) (hW 82 _ rfl) (hW 81 _ rfl) (hW 76 _ rfl) (hW 83 _ rfl) (by decide) E364 (own_orN l Z a0 H o364 h364 S364.old E364 F364) own_pdc2743d rfl rfl (hz _ rfl) (rest := []) rfl (W := 0) (by show 2 * 0 + _ ≤ _; exact Nat.le_of_eq rfl) (hb hby at_254) (by decide) (by decide) (by decide) (by decide) (fun v365 vm365 T365 h365 S365 C365 q365 => ?_)
      obtain ⟨K365, rfl⟩ := q365
      have J365 : Own.Stp Z consts_1 vm364 h364 vm365 h365 [] := ⟨K365, C365⟩
      show G T365 (mkF m 257 #[.val (.long q0), .second, iv q1, iv q2, iv (q2 &&& (3 : Int32)), iv (((q2.toUInt32 >>> ((2 : Int32) &&& 31).toUInt32).toInt32) ^^^ (-1 : Int32)), rv x294, iv 2, rv x363, .val .null, .unset] [.null])
      refine Own.Sit.castNull hG S365 hx rfl rfl (hb hby at_257) ?_
      show G T365 (mkF m 260 #[.val (.long q0), .second, iv q1, iv q2, iv (q2 &&& (3 : Int32)), iv (((q2.toUInt32 >>> ((2 : Int32) &&& 31).toUInt32).toInt32) ^^^ (-1 : Int32)), rv x294, iv 2, rv x363, .val .null, .unset] [.null])
      refine hG.st (fun t q => XS.astore S365.here hx rfl (hb hby at_260) rfl rfl (l' := #[.val (.long q0), .second, iv q1, iv q2, iv (q2 &&& (3 : Int32)), iv (((q2.toUInt32 >>> ((2 : Int32) &&& 31).toUInt32).toInt32) ^^^ (-1 : Int32)), rv x294, iv 2, rv x363, .val .null, .val .null]) rfl (XS.aload S365.here hx rfl (hb hby at_262) rfl rfl (XS.aload S365.here hx rfl (hb hby at_264) rfl rfl q))) ?_
      show G T365 (mkF m 266 #[.val (.long q0), .second, iv q1, iv q2, iv (q2 &&& (3 : Int32)), iv (((q2.toUInt32 >>> ((2 : Int32) &&& 31).toUInt32).toInt32) ^^^ (-1 : Int32)), rv x294, iv 2, rv x363, .val .null, .val .null] [.null, .null])
      refine Own.Sit.acmp hG S365 hx (g := (mkF m 266 #[.val (.long q0), .second, iv q1, iv q2, iv (q2 &&& (3 : Int32)), iv (((q2.toUInt32 >>> ((2 : Int32) &&& 31).toUInt32).toInt32) ^^^ (-1 : Int32)), rv x294, iv 2, rv x363, .val .null, .val .null] [.null, .null])) rfl rfl rfl (pc0 := 266) (pc' := 269) (same := true) rfl (hb hby at_266) rfl (decide_eq_true rfl) (by decide) (by decide) ?_
      show G T365 (mkF m 269 #[.val (.long q0), .second, iv q1, iv q2, iv (q2 &&& (3 : Int32)), iv (((q2.toUInt32 >>> ((2 : Int32) &&& 31).toUInt32).toInt32) ^^^ (-1 : Int32)), rv x294, iv 2, rv x363, .val .null, .val .null] [])
      refine hG.st (fun t q => XS.iconst S365.here hx rfl (hb hby at_269) (XS.goto S365.here hx rfl (pc0 := 270) (pc' := 274) rfl (hb hby at_270) (by decide) (by decide) q)) ?_
      show G T365 (mkF m 274 #[.val (.long q0), .second, iv q1, iv q2, iv (q2 &&& (3 : Int32)), iv (((q2.toUInt32 >>> ((2 : Int32) &&& 31).toUInt32).toInt32) ^^^ (-1 : Int32)), rv x294, iv 2, rv x363, .val .null, .val .null] [(.int 1)])
      have J366 : Own.Stp Z consts_1 vm0 h0 vm295 h295 [] := Own.Stp.trans J294 J295 (all0) all0
      have J367 : Own.Stp Z consts_1 vm0 h0 vm295 h297 [] := Own.Stp.trans J366 J297 (all0) (allS (Or.inr (Nat.le_of_eq g_x294.symm)) all0)
      have J368 : Own.Stp Z consts_1 vm0 h0 vm298 h298 [] := Own.Stp.trans J367 J298 (all0) all0
      have J369 : Own.Stp Z consts_1 vm0 h0 vm298 h300 [] := Own.Stp.trans J368 J300 (all0) (allS (Or.inr (Nat.le_of_eq g_x294.symm)) all0)
      have J370 : Own.Stp Z consts_1 vm0 h0 vm301 h301 [] := Own.Stp.trans J369 J301 (all0) all0
      have J371 : Own.Stp Z consts_1 vm0 h0 vm301 h303 [] := Own.Stp.trans J370 J303 (all0) (allS (Or.inr (Nat.le_of_eq g_x294.symm)) all0)
      have J372 : Own.Stp Z consts_1 vm0 h0 vm304 h304 [] := Own.Stp.trans J371 J304 (all0) all0
      have J373 : Own.Stp Z consts_1 vm0 h0 vm304 h306 [] := Own.Stp.trans J372 J306 (all0) (allS (Or.inr (Nat.le_of_eq g_x294.symm)) all0)
      have J374 : Own.Stp Z consts_1 vm0 h0 vm307 h307 [] := Own.Stp.trans J373 J307 (all0) all0
      have J375 : Own.Stp Z consts_1 vm0 h0 vm307 h309 [] := Own.Stp.trans J374 J309 (all0) (allS (Or.inr (Nat.le_of_eq g_x294.symm)) all0)
      have J376 : Own.Stp Z consts_1 vm0 h0 vm310 h310 [] := Own.Stp.trans J375 J310 (all0) all0
      have J377 : Own.Stp Z consts_1 vm0 h0 vm310 h312 [] := Own.Stp.trans J376 J312 (all0) (allS (Or.inr (Nat.le_of_eq g_x294.symm)) all0)
      have J378 : Own.Stp Z consts_1 vm0 h0 vm313 h313 [] := Own.Stp.trans J377 J313 (all0) all0
      have J379 : Own.Stp Z consts_1 vm0 h0 vm313 h315 [] := Own.Stp.trans J378 J315 (all0) (allS (Or.inr (Nat.le_of_eq g_x294.symm)) all0)
      have J380 : Own.Stp Z consts_1 vm0 h0 vm316 h316 [] := Own.Stp.trans J379 J316 (all0) all0
      have J381 : Own.Stp Z consts_1 vm0 h0 vm316 h318 [] := Own.Stp.trans J380 J318 (all0) (allS (Or.inr (Nat.le_of_eq g_x294.symm)) all0)
      have J382 : Own.Stp Z consts_1 vm0 h0 vm363 h363 [] := Own.Stp.trans J381 J363 (all0) all0
      have J383 : Own.Stp Z consts_1 vm0 h0 vm364 h364 [] := Own.Stp.trans J382 J364 (all0) all0
      have J384 : Own.Stp Z consts_1 vm0 h0 vm365 h365 [] := Own.Stp.trans J383 J365 (all0) all0
      exact Own.Sit.retN hR S365 hx (t := .boolean) hret (by simp) (hb hby at_274) (by decide) (by decide) ⟨J384.1, rfl⟩
  by_cases hk3 : (q1 &&& (7 : Int32)) = (3 : Int32)
  ·
    rw [hk3]
    show G T318 (mkF m 132 #[.val (.long q0), .second, iv q1, iv q2, iv (q2 &&& (3 : Int32)), iv (((q2.toUInt32 >>> ((2 : Int32) &&& 31).toUInt32).toInt32) ^^^ (-1 : Int32)), rv x294, iv 3, .unset, .unset, .unset] [])
    refine hG.st (fun t q => XS.aload S318.here hx rfl (hb hby at_132) rfl rfl (XS.iload S318.here hx rfl (hb hby at_134) rfl q)) ?_
    show G T318 (mkF m 136 #[.val (.long q0), .second, iv q1, iv q2, iv (q2 &&& (3 : Int32)), iv (((q2.toUInt32 >>> ((2 : Int32) &&& 31).toUInt32).toInt32) ^^^ (-1 : Int32)), rv x294, iv 3, .unset, .unset, .unset] [(.int 3), (.ref x294)])
    refine Own.Sit.callS hG S318 hx hEL (as := [(.ref x294), (.int 3)]) (hW 9 _ rfl) (hW 10 _ rfl) (hW 3 _ rfl) (hW 11 _ rfl) (by decide) (own_str3 l Z a0 H x294 c295 c298 c301 c304 c307 c310 c313 c316 h318 S318.old V318 r295 r298 r301 r304 r307 r310 r313 r316) own_pde07951 rfl rfl (hz _ rfl) (rest := []) rfl (W := 0) (by show 2 * 0 + _ ≤ _; exact Nat.le_of_eq rfl) (hb hby at_136) (by decide) (by decide) (by decide) (by decide) (fun v385 vm385 T385 h385 S385 C385 q385 => ?_)
    obtain ⟨K385, x385, y385, rfl, St385, u385⟩ := q385
    have J385 : Own.Stp Z consts_1 vm316 h318 vm385 h385 [] := ⟨K385, C385⟩
    show G T385 (mkF m 139 #[.val (.long q0), .second, iv q1, iv q2, iv (q2 &&& (3 : Int32)), iv (((q2.toUInt32 >>> ((2 : Int32) &&& 31).toUInt32).toInt32) ^^^ (-1 : Int32)), rv x294, iv 3, .unset, .unset, .unset] [(.ref x385)])
    refine hG.st (fun t q => XS.astore S385.here hx rfl (hb hby at_139) rfl rfl (l' := #[.val (.long q0), .second, iv q1, iv q2, iv (q2 &&& (3 : Int32)), iv (((q2.toUInt32 >>> ((2 : Int32) &&& 31).toUInt32).toInt32) ^^^ (-1 : Int32)), rv x294, iv 3, rv x385, .unset, .unset]) rfl (XS.aconstNull S385.here hx rfl (hb hby at_141) (XS.astore S385.here hx rfl (hb hby at_142) rfl rfl (l' := #[.val (.long q0), .second, iv q1, iv q2, iv (q2 &&& (3 : Int32)), iv (((q2.toUInt32 >>> ((2 : Int32) &&& 31).toUInt32).toInt32) ^^^ (-1 : Int32)), rv x294, iv 3, rv x385, .val .null, .unset]) rfl (XS.iload S385.here hx rfl (hb hby at_144) rfl (XS.iconst S385.here hx rfl (hb hby at_146) (XS.icmpNo S385.here hx rfl (hb hby at_147) rfl (teq (by decide : (3 : Int32) = (3 : Int32))).2 q)))))) ?_
    show G T385 (mkF m 150 #[.val (.long q0), .second, iv q1, iv q2, iv (q2 &&& (3 : Int32)), iv (((q2.toUInt32 >>> ((2 : Int32) &&& 31).toUInt32).toInt32) ^^^ (-1 : Int32)), rv x294, iv 3, rv x385, .val .null, .unset] [])
    refine hG.st (fun t q => XS.aload S385.here hx rfl (hb hby at_150) rfl rfl (XS.iconst S385.here hx rfl (hb hby at_152) q)) ?_
    show G T385 (mkF m 153 #[.val (.long q0), .second, iv q1, iv q2, iv (q2 &&& (3 : Int32)), iv (((q2.toUInt32 >>> ((2 : Int32) &&& 31).toUInt32).toInt32) ^^^ (-1 : Int32)), rv x294, iv 3, rv x385, .val .null, .unset] [(.int 0), (.ref x294)])
    have V386 := J385.arv V318 nin0
    refine Own.Sit.caload hG S385 hx V386 ⟨by decide, by decide⟩ rfl rfl rfl (hb hby at_153) ?_
    show G T385 (mkF m 154 #[.val (.long q0), .second, iv q1, iv q2, iv (q2 &&& (3 : Int32)), iv (((q2.toUInt32 >>> ((2 : Int32) &&& 31).toUInt32).toInt32) ^^^ (-1 : Int32)), rv x294, iv 3, rv x385, .val .null, .unset] [(.int c295)])
    refine hG.st (fun t q => XS.bipush S385.here hx rfl (hb hby at_154) q) ?_
    show G T385 (mkF m 156 #[.val (.long q0), .second, iv q1, iv q2, iv (q2 &&& (3 : Int32)), iv (((q2.toUInt32 >>> ((2 : Int32) &&& 31).toUInt32).toInt32) ^^^ (-1 : Int32)), rv x294, iv 3, rv x385, .val .null, .unset] [(.int 97), (.int c295)])
    by_cases hc156 : c295 = (97 : Int32)
    ·
      refine hG.st (fun t q => XS.icmpNo S385.here hx rfl (hb hby at_156) rfl (teq hc156).2 (XS.aload S385.here hx rfl (hb hby at_159) rfl rfl (XS.iconst S385.here hx rfl (hb hby at_161) q))) ?_
      show G T385 (mkF m 162 #[.val (.long q0), .second, iv q1, iv q2, iv (q2 &&& (3 : Int32)), iv (((q2.toUInt32 >>> ((2 : Int32) &&& 31).toUInt32).toInt32) ^^^ (-1 : Int32)), rv x294, iv 3, rv x385, .val .null, .unset] [(.int 1), (.ref x294)])
      refine Own.Sit.caload hG S385 hx V386 ⟨by decide, by decide⟩ rfl rfl rfl (hb hby at_162) ?_
      show G T385 (mkF m 163 #[.val (.long q0), .second, iv q1, iv q2, iv (q2 &&& (3 : Int32)), iv (((q2.toUInt32 >>> ((2 : Int32) &&& 31).toUInt32).toInt32) ^^^ (-1 : Int32)), rv x294, iv 3, rv x385, .val .null, .unset] [(.int c298)])
      refine hG.st (fun t q => XS.bipush S385.here hx rfl (hb hby at_163) q) ?_
      show G T385 (mkF m 165 #[.val (.long q0), .second, iv q1, iv q2, iv (q2 &&& (3 : Int32)), iv (((q2.toUInt32 >>> ((2 : Int32) &&& 31).toUInt32).toInt32) ^^^ (-1 : Int32)), rv x294, iv 3, rv x385, .val .null, .unset] [(.int 100), (.int c298)])
      by_cases hc165 : c298 = (100 : Int32)
      ·
        refine hG.st (fun t q => XS.icmpNo S385.here hx rfl (hb hby at_165) rfl (teq hc165).2 (XS.aload S385.here hx rfl (hb hby at_168) rfl rfl (XS.iconst S385.here hx rfl (hb hby at_170) q))) ?_
        show G T385 (mkF m 171 #[.val (.long q0), .second, iv q1, iv q2, iv (q2 &&& (3 : Int32)), iv (((q2.toUInt32 >>> ((2 : Int32) &&& 31).toUInt32).toInt32) ^^^ (-1 : Int32)), rv x294, iv 3, rv x385, .val .null, .unset] [(.int 2), (.ref x294)])
        refine Own.Sit.caload hG S385 hx V386 ⟨by decide, by decide⟩ rfl rfl rfl (hb hby at_171) ?_
        show G T385 (mkF m 172 #[.val (.long q0), .second, iv q1, iv q2, iv (q2 &&& (3 : Int32)), iv (((q2.toUInt32 >>> ((2 : Int32) &&& 31).toUInt32).toInt32) ^^^ (-1 : Int32)), rv x294, iv 3, rv x385, .val .null, .unset] [(.int c301)])
        refine hG.st (fun t q => XS.bipush S385.here hx rfl (hb hby at_172) q) ?_
        show G T385 (mkF m 174 #[.val (.long q0), .second, iv q1, iv q2, iv (q2 &&& (3 : Int32)), iv (((q2.toUInt32 >>> ((2 : Int32) &&& 31).toUInt32).toInt32) ^^^ (-1 : Int32)), rv x294, iv 3, rv x385, .val .null, .unset] [(.int 100), (.int c301)])
        by_cases hc174 : c301 = (100 : Int32)
        ·
          refine hG.st (fun t q => XS.icmpNo S385.here hx rfl (hb hby at_174) rfl (teq hc174).2 q) ?_
          show G T385 (mkF m 177 #[.val (.long q0), .second, iv q1, iv q2, iv (q2 &&& (3 : Int32)), iv (((q2.toUInt32 >>> ((2 : Int32) &&& 31).toUInt32).toInt32) ^^^ (-1 : Int32)), rv x294, iv 3, rv x385, .val .null, .unset] [])
          refine Own.Sit.getS hG S385 hx (host := "") (Or.inl (hW 111 _ rfl)) Via.refl (Sl.ext S385.old) rfl (hb hby at_177) (fun T387 S387 => ?_)
          show G T387 (mkF m 180 #[.val (.long q0), .second, iv q1, iv q2, iv (q2 &&& (3 : Int32)), iv (((q2.toUInt32 >>> ((2 : Int32) &&& 31).toUInt32).toInt32) ^^^ (-1 : Int32)), rv x294, iv 3, rv x385, .val .null, .unset] [(.ref ka)])
          refine hG.st (fun t q => XS.astore S387.here hx rfl (hb hby at_180) rfl rfl (l' := #[.val (.long q0), .second, iv q1, iv q2, iv (q2 &&& (3 : Int32)), iv (((q2.toUInt32 >>> ((2 : Int32) &&& 31).toUInt32).toInt32) ^^^ (-1 : Int32)), rv x294, iv 3, rv x385, rv ka, .unset]) rfl (XS.iload S387.here hx rfl (hb hby at_182) rfl (XS.bipush S387.here hx rfl (hb hby at_184) (XS.icmpYes S387.here hx rfl (pc0 := 186) (pc' := 248) rfl (hb hby at_186) rfl (feq (by decide : ¬ ((3 : Int32) = (6 : Int32)))).2 (by decide) (by decide) (XS.aload S387.here hx rfl (hb hby at_248) rfl rfl q))))) ?_
          show G T387 (mkF m 250 #[.val (.long q0), .second, iv q1, iv q2, iv (q2 &&& (3 : Int32)), iv (((q2.toUInt32 >>> ((2 : Int32) &&& 31).toUInt32).toInt32) ^^^ (-1 : Int32)), rv x294, iv 3, rv x385, rv ka, .unset] [(.ref x385)])
          refine Own.Sit.callS hG S387 hx hEL (as := [(.ref x385)]) (hW 41 _ rfl) (hW 42 _ rfl) (hW 43 _ rfl) (hW 44 _ rfl) (by decide) (own_named l Z a0 H x385 N y385 ([c295, c298, c301] : List Int32) h385 S387.old St385) own_pdf4991c rfl rfl (hz _ rfl) (rest := []) rfl (W := 0) (by show 2 * 0 + _ ≤ _; exact Nat.le_of_eq rfl) (hb hby at_250) (by decide) (by decide) (by decide) (by decide) (fun v388 vm388 T388 h388 S388 C388 q388 => ?_)
          obtain ⟨K388, o388, rfl, E388, qq388⟩ := q388
          have J388 : Own.Stp Z consts_1 vm385 h385 vm388 h388 [] := ⟨K388, C388⟩
          rcases qq388 with ⟨qa388, F388⟩ | ⟨qa388, F388⟩ | ⟨qa388, F388⟩
          ·
            show G T388 (mkF m 253 #[.val (.long q0), .second, iv q1, iv q2, iv (q2 &&& (3 : Int32)), iv (((q2.toUInt32 >>> ((2 : Int32) &&& 31).toUInt32).toInt32) ^^^ (-1 : Int32)), rv x294, iv 3, rv x385, rv ka, .unset] [(.ref o388)])
            refine hG.st (fun t q => XS.aconstNull S388.here hx rfl (hb hby at_253) q) ?_
            show G T388 (mkF m 254 #[.val (.long q0), .second, iv q1, iv q2, iv (q2 &&& (3 : Int32)), iv (((q2.toUInt32 >>> ((2 : Int32) &&& 31).toUInt32).toInt32) ^^^ (-1 : Int32)), rv x294, iv 3, rv x385, rv ka, .unset] [.null, (.ref o388)])
            refine Own.Sit.callV hG S388 hx hEL (as := [.null]) (hW 79 _ rfl) (hW 80 _ rfl) (hW 82 _ rfl) (hW 81 _ rfl) (hW 76 _ rfl) (hW 83 _ rfl) (by decide) E388 (own_orR l Z a0 H o388 ka h388 S388.old E388 F388) own_pdc2743d rfl rfl (hz _ rfl) (rest := []) rfl (W := 0) (by show 2 * 0 + _ ≤ _; exact Nat.le_of_eq rfl) (hb hby at_254) (by decide) (by decide) (by decide) (by decide) (fun v389 vm389 T389 h389 S389 C389 q389 => ?_)
            obtain ⟨K389, rfl⟩ := q389
            have J389 : Own.Stp Z consts_1 vm388 h388 vm389 h389 [] := ⟨K389, C389⟩
            show G T389 (mkF m 257 #[.val (.long q0), .second, iv q1, iv q2, iv (q2 &&& (3 : Int32)), iv (((q2.toUInt32 >>> ((2 : Int32) &&& 31).toUInt32).toInt32) ^^^ (-1 : Int32)), rv x294, iv 3, rv x385, rv ka, .unset] [(.ref ka)])
            have E390 := Ekl.ext S389.old
            refine Own.Sit.castY hG S389 hx (hW 126 _ rfl) (Ins.self E390) rfl rfl (hb hby at_257) (fun T391 S391 => ?_)
            show G T391 (mkF m 260 #[.val (.long q0), .second, iv q1, iv q2, iv (q2 &&& (3 : Int32)), iv (((q2.toUInt32 >>> ((2 : Int32) &&& 31).toUInt32).toInt32) ^^^ (-1 : Int32)), rv x294, iv 3, rv x385, rv ka, .unset] [(.ref ka)])
            refine hG.st (fun t q => XS.astore S391.here hx rfl (hb hby at_260) rfl rfl (l' := #[.val (.long q0), .second, iv q1, iv q2, iv (q2 &&& (3 : Int32)), iv (((q2.toUInt32 >>> ((2 : Int32) &&& 31).toUInt32).toInt32) ^^^ (-1 : Int32)), rv x294, iv 3, rv x385, rv ka, rv ka]) rfl (XS.aload S391.here hx rfl (hb hby at_262) rfl rfl (XS.aload S391.here hx rfl (hb hby at_264) rfl rfl q))) ?_
            show G T391 (mkF m 266 #[.val (.long q0), .second, iv q1, iv q2, iv (q2 &&& (3 : Int32)), iv (((q2.toUInt32 >>> ((2 : Int32) &&& 31).toUInt32).toInt32) ^^^ (-1 : Int32)), rv x294, iv 3, rv x385, rv ka, rv ka] [(.ref ka), (.ref ka)])
            refine Own.Sit.acmp hG S391 hx (g := (mkF m 266 #[.val (.long q0), .second, iv q1, iv q2, iv (q2 &&& (3 : Int32)), iv (((q2.toUInt32 >>> ((2 : Int32) &&& 31).toUInt32).toInt32) ^^^ (-1 : Int32)), rv x294, iv 3, rv x385, rv ka, rv ka] [(.ref ka), (.ref ka)])) rfl rfl rfl (pc0 := 266) (pc' := 269) (same := true) rfl (hb hby at_266) rfl (decide_eq_true rfl) (by decide) (by decide) ?_
            show G T391 (mkF m 269 #[.val (.long q0), .second, iv q1, iv q2, iv (q2 &&& (3 : Int32)), iv (((q2.toUInt32 >>> ((2 : Int32) &&& 31).toUInt32).toInt32) ^^^ (-1 : Int32)), rv x294, iv 3, rv x385, rv ka, rv ka] [])
            refine hG.st (fun t q => XS.iconst S391.here hx rfl (hb hby at_269) (XS.goto S391.here hx rfl (pc0 := 270) (pc' := 274) rfl (hb hby at_270) (by decide) (by decide) q)) ?_
            show G T391 (mkF m 274 #[.val (.long q0), .second, iv q1, iv q2, iv (q2 &&& (3 : Int32)), iv (((q2.toUInt32 >>> ((2 : Int32) &&& 31).toUInt32).toInt32) ^^^ (-1 : Int32)), rv x294, iv 3, rv x385, rv ka, rv ka] [(.int 1)])
            have J392 : Own.Stp Z consts_1 vm0 h0 vm295 h295 [] := Own.Stp.trans J294 J295 (all0) all0
            have J393 : Own.Stp Z consts_1 vm0 h0 vm295 h297 [] := Own.Stp.trans J392 J297 (all0) (allS (Or.inr (Nat.le_of_eq g_x294.symm)) all0)
            have J394 : Own.Stp Z consts_1 vm0 h0 vm298 h298 [] := Own.Stp.trans J393 J298 (all0) all0
            have J395 : Own.Stp Z consts_1 vm0 h0 vm298 h300 [] := Own.Stp.trans J394 J300 (all0) (allS (Or.inr (Nat.le_of_eq g_x294.symm)) all0)
            have J396 : Own.Stp Z consts_1 vm0 h0 vm301 h301 [] := Own.Stp.trans J395 J301 (all0) all0
            have J397 : Own.Stp Z consts_1 vm0 h0 vm301 h303 [] := Own.Stp.trans J396 J303 (all0) (allS (Or.inr (Nat.le_of_eq g_x294.symm)) all0)
            have J398 : Own.Stp Z consts_1 vm0 h0 vm304 h304 [] := Own.Stp.trans J397 J304 (all0) all0
            have J399 : Own.Stp Z consts_1 vm0 h0 vm304 h306 [] := Own.Stp.trans J398 J306 (all0) (allS (Or.inr (Nat.le_of_eq g_x294.symm)) all0)
            have J400 : Own.Stp Z consts_1 vm0 h0 vm307 h307 [] := Own.Stp.trans J399 J307 (all0) all0
            have J401 : Own.Stp Z consts_1 vm0 h0 vm307 h309 [] := Own.Stp.trans J400 J309 (all0) (allS (Or.inr (Nat.le_of_eq g_x294.symm)) all0)
            have J402 : Own.Stp Z consts_1 vm0 h0 vm310 h310 [] := Own.Stp.trans J401 J310 (all0) all0
            have J403 : Own.Stp Z consts_1 vm0 h0 vm310 h312 [] := Own.Stp.trans J402 J312 (all0) (allS (Or.inr (Nat.le_of_eq g_x294.symm)) all0)
            have J404 : Own.Stp Z consts_1 vm0 h0 vm313 h313 [] := Own.Stp.trans J403 J313 (all0) all0
            have J405 : Own.Stp Z consts_1 vm0 h0 vm313 h315 [] := Own.Stp.trans J404 J315 (all0) (allS (Or.inr (Nat.le_of_eq g_x294.symm)) all0)
            have J406 : Own.Stp Z consts_1 vm0 h0 vm316 h316 [] := Own.Stp.trans J405 J316 (all0) all0
            have J407 : Own.Stp Z consts_1 vm0 h0 vm316 h318 [] := Own.Stp.trans J406 J318 (all0) (allS (Or.inr (Nat.le_of_eq g_x294.symm)) all0)
            have J408 : Own.Stp Z consts_1 vm0 h0 vm385 h385 [] := Own.Stp.trans J407 J385 (all0) all0
            have J409 : Own.Stp Z consts_1 vm0 h0 vm388 h388 [] := Own.Stp.trans J408 J388 (all0) all0
            have J410 : Own.Stp Z consts_1 vm0 h0 vm389 h389 [] := Own.Stp.trans J409 J389 (all0) all0
            exact Own.Sit.retN hR S391 hx (t := .boolean) hret (by simp) (hb hby at_274) (by decide) (by decide) ⟨J410.1, rfl⟩
          ·
            simp at qa388
          ·
            exact absurd (by rw [hc156, hc165, hc174]) qa388.1
        ·
          refine hG.st (fun t q => XS.icmpYes S385.here hx rfl (pc0 := 174) (pc' := 182) rfl (hb hby at_174) rfl (feq hc174).2 (by decide) (by decide) (XS.iload S385.here hx rfl (hb hby at_182) rfl (XS.bipush S385.here hx rfl (hb hby at_184) (XS.icmpYes S385.here hx rfl (pc0 := 186) (pc' := 248) rfl (hb hby at_186) rfl (feq (by decide : ¬ ((3 : Int32) = (6 : Int32)))).2 (by decide) (by decide) (XS.aload S385.here hx rfl (hb hby at_248) rfl rfl q))))) ?_
          show G T385 (mkF m 250 #[.val (.long q0), .second, iv q1, iv q2, iv (q2 &&& (3 : Int32)), iv (((q2.toUInt32 >>> ((2 : Int32) &&& 31).toUInt32).toInt32) ^^^ (-1 : Int32)), rv x294, iv 3, rv x385, .val .null, .unset] [(.ref x385)])
          refine Own.Sit.callS hG S385 hx hEL (as := [(.ref x385)]) (hW 41 _ rfl) (hW 42 _ rfl) (hW 43 _ rfl) (hW 44 _ rfl) (by decide) (own_named l Z a0 H x385 N y385 ([c295, c298, c301] : List Int32) h385 S385.old St385) own_pdf4991c rfl rfl (hz _ rfl) (rest := []) rfl (W := 0) (by show 2 * 0 + _ ≤ _; exact Nat.le_of_eq rfl) (hb hby at_250) (by decide) (by decide) (by decide) (by decide) (fun v411 vm411 T411 h411 S411 C411 q411 => ?_)
          obtain ⟨K411, o411, rfl, E411, qq411⟩ := q411
          have J411 : Own.Stp Z consts_1 vm385 h385 vm411 h411 [] := ⟨K411, C411⟩
          rcases qq411 with ⟨qa411, F411⟩ | ⟨qa411, F411⟩ | ⟨qa411, F411⟩
          ·
            simp only [List.cons.injEq, and_true] at qa411
            exact absurd qa411.2.2.symm hc174
          ·
            simp at qa411
          ·
            show G T411 (mkF m 253 #[.val (.long q0), .second, iv q1, iv q2, iv (q2 &&& (3 : Int32)), iv (((q2.toUInt32 >>> ((2 : Int32) &&& 31).toUInt32).toInt32) ^^^ (-1 : Int32)), rv x294, iv 3, rv x385, .val .null, .unset] [(.ref o411)])
            refine hG.st (fun t q => XS.aconstNull S411.here hx rfl (hb hby at_253) q) ?_
            show G T411 (mkF m 254 #[.val (.long q0), .second, iv q1, iv q2, iv (q2 &&& (3 : Int32)), iv (((q2.toUInt32 >>> ((2 : Int32) &&& 31).toUInt32).toInt32) ^^^ (-1 : Int32)), rv x294, iv 3, rv x385, .val .null, .unset] [.null, (.ref o411)])
            refine Own.Sit.callV hG S411 hx hEL (as := [.null]) (hW 79 _ rfl) (hW 80 _ rfl) (hW 82 _ rfl) (hW 81 _ rfl) (hW 76 _ rfl) (hW 83 _ rfl) (by decide) E411 (own_orN l Z a0 H o411 h411 S411.old E411 F411) own_pdc2743d rfl rfl (hz _ rfl) (rest := []) rfl (W := 0) (by show 2 * 0 + _ ≤ _; exact Nat.le_of_eq rfl) (hb hby at_254) (by decide) (by decide) (by decide) (by decide) (fun v412 vm412 T412 h412 S412 C412 q412 => ?_)
            obtain ⟨K412, rfl⟩ := q412
            have J412 : Own.Stp Z consts_1 vm411 h411 vm412 h412 [] := ⟨K412, C412⟩
            show G T412 (mkF m 257 #[.val (.long q0), .second, iv q1, iv q2, iv (q2 &&& (3 : Int32)), iv (((q2.toUInt32 >>> ((2 : Int32) &&& 31).toUInt32).toInt32) ^^^ (-1 : Int32)), rv x294, iv 3, rv x385, .val .null, .unset] [.null])
            refine Own.Sit.castNull hG S412 hx rfl rfl (hb hby at_257) ?_
            show G T412 (mkF m 260 #[.val (.long q0), .second, iv q1, iv q2, iv (q2 &&& (3 : Int32)), iv (((q2.toUInt32 >>> ((2 : Int32) &&& 31).toUInt32).toInt32) ^^^ (-1 : Int32)), rv x294, iv 3, rv x385, .val .null, .unset] [.null])
            refine hG.st (fun t q => XS.astore S412.here hx rfl (hb hby at_260) rfl rfl (l' := #[.val (.long q0), .second, iv q1, iv q2, iv (q2 &&& (3 : Int32)), iv (((q2.toUInt32 >>> ((2 : Int32) &&& 31).toUInt32).toInt32) ^^^ (-1 : Int32)), rv x294, iv 3, rv x385, .val .null, .val .null]) rfl (XS.aload S412.here hx rfl (hb hby at_262) rfl rfl (XS.aload S412.here hx rfl (hb hby at_264) rfl rfl q))) ?_
            show G T412 (mkF m 266 #[.val (.long q0), .second, iv q1, iv q2, iv (q2 &&& (3 : Int32)), iv (((q2.toUInt32 >>> ((2 : Int32) &&& 31).toUInt32).toInt32) ^^^ (-1 : Int32)), rv x294, iv 3, rv x385, .val .null, .val .null] [.null, .null])
            refine Own.Sit.acmp hG S412 hx (g := (mkF m 266 #[.val (.long q0), .second, iv q1, iv q2, iv (q2 &&& (3 : Int32)), iv (((q2.toUInt32 >>> ((2 : Int32) &&& 31).toUInt32).toInt32) ^^^ (-1 : Int32)), rv x294, iv 3, rv x385, .val .null, .val .null] [.null, .null])) rfl rfl rfl (pc0 := 266) (pc' := 269) (same := true) rfl (hb hby at_266) rfl (decide_eq_true rfl) (by decide) (by decide) ?_
            show G T412 (mkF m 269 #[.val (.long q0), .second, iv q1, iv q2, iv (q2 &&& (3 : Int32)), iv (((q2.toUInt32 >>> ((2 : Int32) &&& 31).toUInt32).toInt32) ^^^ (-1 : Int32)), rv x294, iv 3, rv x385, .val .null, .val .null] [])
            refine hG.st (fun t q => XS.iconst S412.here hx rfl (hb hby at_269) (XS.goto S412.here hx rfl (pc0 := 270) (pc' := 274) rfl (hb hby at_270) (by decide) (by decide) q)) ?_
            show G T412 (mkF m 274 #[.val (.long q0), .second, iv q1, iv q2, iv (q2 &&& (3 : Int32)), iv (((q2.toUInt32 >>> ((2 : Int32) &&& 31).toUInt32).toInt32) ^^^ (-1 : Int32)), rv x294, iv 3, rv x385, .val .null, .val .null] [(.int 1)])
            have J413 : Own.Stp Z consts_1 vm0 h0 vm295 h295 [] := Own.Stp.trans J294 J295 (all0) all0
            have J414 : Own.Stp Z consts_1 vm0 h0 vm295 h297 [] := Own.Stp.trans J413 J297 (all0) (allS (Or.inr (Nat.le_of_eq g_x294.symm)) all0)
            have J415 : Own.Stp Z consts_1 vm0 h0 vm298 h298 [] := Own.Stp.trans J414 J298 (all0) all0
            have J416 : Own.Stp Z consts_1 vm0 h0 vm298 h300 [] := Own.Stp.trans J415 J300 (all0) (allS (Or.inr (Nat.le_of_eq g_x294.symm)) all0)
            have J417 : Own.Stp Z consts_1 vm0 h0 vm301 h301 [] := Own.Stp.trans J416 J301 (all0) all0
            have J418 : Own.Stp Z consts_1 vm0 h0 vm301 h303 [] := Own.Stp.trans J417 J303 (all0) (allS (Or.inr (Nat.le_of_eq g_x294.symm)) all0)
            have J419 : Own.Stp Z consts_1 vm0 h0 vm304 h304 [] := Own.Stp.trans J418 J304 (all0) all0
            have J420 : Own.Stp Z consts_1 vm0 h0 vm304 h306 [] := Own.Stp.trans J419 J306 (all0) (allS (Or.inr (Nat.le_of_eq g_x294.symm)) all0)
            have J421 : Own.Stp Z consts_1 vm0 h0 vm307 h307 [] := Own.Stp.trans J420 J307 (all0) all0
            have J422 : Own.Stp Z consts_1 vm0 h0 vm307 h309 [] := Own.Stp.trans J421 J309 (all0) (allS (Or.inr (Nat.le_of_eq g_x294.symm)) all0)
            have J423 : Own.Stp Z consts_1 vm0 h0 vm310 h310 [] := Own.Stp.trans J422 J310 (all0) all0
            have J424 : Own.Stp Z consts_1 vm0 h0 vm310 h312 [] := Own.Stp.trans J423 J312 (all0) (allS (Or.inr (Nat.le_of_eq g_x294.symm)) all0)
            have J425 : Own.Stp Z consts_1 vm0 h0 vm313 h313 [] := Own.Stp.trans J424 J313 (all0) all0
            have J426 : Own.Stp Z consts_1 vm0 h0 vm313 h315 [] := Own.Stp.trans J425 J315 (all0) (allS (Or.inr (Nat.le_of_eq g_x294.symm)) all0)
            have J427 : Own.Stp Z consts_1 vm0 h0 vm316 h316 [] := Own.Stp.trans J426 J316 (all0) all0
            have J428 : Own.Stp Z consts_1 vm0 h0 vm316 h318 [] := Own.Stp.trans J427 J318 (all0) (allS (Or.inr (Nat.le_of_eq g_x294.symm)) all0)
            have J429 : Own.Stp Z consts_1 vm0 h0 vm385 h385 [] := Own.Stp.trans J428 J385 (all0) all0
            have J430 : Own.Stp Z consts_1 vm0 h0 vm411 h411 [] := Own.Stp.trans J429 J411 (all0) all0
            have J431 : Own.Stp Z consts_1 vm0 h0 vm412 h412 [] := Own.Stp.trans J430 J412 (all0) all0
            exact Own.Sit.retN hR S412 hx (t := .boolean) hret (by simp) (hb hby at_274) (by decide) (by decide) ⟨J431.1, rfl⟩
      ·
        refine hG.st (fun t q => XS.icmpYes S385.here hx rfl (pc0 := 165) (pc' := 182) rfl (hb hby at_165) rfl (feq hc165).2 (by decide) (by decide) (XS.iload S385.here hx rfl (hb hby at_182) rfl (XS.bipush S385.here hx rfl (hb hby at_184) (XS.icmpYes S385.here hx rfl (pc0 := 186) (pc' := 248) rfl (hb hby at_186) rfl (feq (by decide : ¬ ((3 : Int32) = (6 : Int32)))).2 (by decide) (by decide) (XS.aload S385.here hx rfl (hb hby at_248) rfl rfl q))))) ?_
        show G T385 (mkF m 250 #[.val (.long q0), .second, iv q1, iv q2, iv (q2 &&& (3 : Int32)), iv (((q2.toUInt32 >>> ((2 : Int32) &&& 31).toUInt32).toInt32) ^^^ (-1 : Int32)), rv x294, iv 3, rv x385, .val .null, .unset] [(.ref x385)])
        refine Own.Sit.callS hG S385 hx hEL (as := [(.ref x385)]) (hW 41 _ rfl) (hW 42 _ rfl) (hW 43 _ rfl) (hW 44 _ rfl) (by decide) (own_named l Z a0 H x385 N y385 ([c295, c298, c301] : List Int32) h385 S385.old St385) own_pdf4991c rfl rfl (hz _ rfl) (rest := []) rfl (W := 0) (by show 2 * 0 + _ ≤ _; exact Nat.le_of_eq rfl) (hb hby at_250) (by decide) (by decide) (by decide) (by decide) (fun v432 vm432 T432 h432 S432 C432 q432 => ?_)
        obtain ⟨K432, o432, rfl, E432, qq432⟩ := q432
        have J432 : Own.Stp Z consts_1 vm385 h385 vm432 h432 [] := ⟨K432, C432⟩
        rcases qq432 with ⟨qa432, F432⟩ | ⟨qa432, F432⟩ | ⟨qa432, F432⟩
        ·
          simp only [List.cons.injEq, and_true] at qa432
          exact absurd qa432.2.1.symm hc165
        ·
          simp at qa432
        ·
          show G T432 (mkF m 253 #[.val (.long q0), .second, iv q1, iv q2, iv (q2 &&& (3 : Int32)), iv (((q2.toUInt32 >>> ((2 : Int32) &&& 31).toUInt32).toInt32) ^^^ (-1 : Int32)), rv x294, iv 3, rv x385, .val .null, .unset] [(.ref o432)])
          refine hG.st (fun t q => XS.aconstNull S432.here hx rfl (hb hby at_253) q) ?_
          show G T432 (mkF m 254 #[.val (.long q0), .second, iv q1, iv q2, iv (q2 &&& (3 : Int32)), iv (((q2.toUInt32 >>> ((2 : Int32) &&& 31).toUInt32).toInt32) ^^^ (-1 : Int32)), rv x294, iv 3, rv x385, .val .null, .unset] [.null, (.ref o432)])
          refine Own.Sit.callV hG S432 hx hEL (as := [.null]) (hW 79 _ rfl) (hW 80 _ rfl) (hW 82 _ rfl) (hW 81 _ rfl) (hW 76 _ rfl) (hW 83 _ rfl) (by decide) E432 (own_orN l Z a0 H o432 h432 S432.old E432 F432) own_pdc2743d rfl rfl (hz _ rfl) (rest := []) rfl (W := 0) (by show 2 * 0 + _ ≤ _; exact Nat.le_of_eq rfl) (hb hby at_254) (by decide) (by decide) (by decide) (by decide) (fun v433 vm433 T433 h433 S433 C433 q433 => ?_)
          obtain ⟨K433, rfl⟩ := q433
          have J433 : Own.Stp Z consts_1 vm432 h432 vm433 h433 [] := ⟨K433, C433⟩
          show G T433 (mkF m 257 #[.val (.long q0), .second, iv q1, iv q2, iv (q2 &&& (3 : Int32)), iv (((q2.toUInt32 >>> ((2 : Int32) &&& 31).toUInt32).toInt32) ^^^ (-1 : Int32)), rv x294, iv 3, rv x385, .val .null, .unset] [.null])
          refine Own.Sit.castNull hG S433 hx rfl rfl (hb hby at_257) ?_
          show G T433 (mkF m 260 #[.val (.long q0), .second, iv q1, iv q2, iv (q2 &&& (3 : Int32)), iv (((q2.toUInt32 >>> ((2 : Int32) &&& 31).toUInt32).toInt32) ^^^ (-1 : Int32)), rv x294, iv 3, rv x385, .val .null, .unset] [.null])
          refine hG.st (fun t q => XS.astore S433.here hx rfl (hb hby at_260) rfl rfl (l' := #[.val (.long q0), .second, iv q1, iv q2, iv (q2 &&& (3 : Int32)), iv (((q2.toUInt32 >>> ((2 : Int32) &&& 31).toUInt32).toInt32) ^^^ (-1 : Int32)), rv x294, iv 3, rv x385, .val .null, .val .null]) rfl (XS.aload S433.here hx rfl (hb hby at_262) rfl rfl (XS.aload S433.here hx rfl (hb hby at_264) rfl rfl q))) ?_
          show G T433 (mkF m 266 #[.val (.long q0), .second, iv q1, iv q2, iv (q2 &&& (3 : Int32)), iv (((q2.toUInt32 >>> ((2 : Int32) &&& 31).toUInt32).toInt32) ^^^ (-1 : Int32)), rv x294, iv 3, rv x385, .val .null, .val .null] [.null, .null])
          refine Own.Sit.acmp hG S433 hx (g := (mkF m 266 #[.val (.long q0), .second, iv q1, iv q2, iv (q2 &&& (3 : Int32)), iv (((q2.toUInt32 >>> ((2 : Int32) &&& 31).toUInt32).toInt32) ^^^ (-1 : Int32)), rv x294, iv 3, rv x385, .val .null, .val .null] [.null, .null])) rfl rfl rfl (pc0 := 266) (pc' := 269) (same := true) rfl (hb hby at_266) rfl (decide_eq_true rfl) (by decide) (by decide) ?_
          show G T433 (mkF m 269 #[.val (.long q0), .second, iv q1, iv q2, iv (q2 &&& (3 : Int32)), iv (((q2.toUInt32 >>> ((2 : Int32) &&& 31).toUInt32).toInt32) ^^^ (-1 : Int32)), rv x294, iv 3, rv x385, .val .null, .val .null] [])
          refine hG.st (fun t q => XS.iconst S433.here hx rfl (hb hby at_269) (XS.goto S433.here hx rfl (pc0 := 270) (pc' := 274) rfl (hb hby at_270) (by decide) (by decide) q)) ?_
          show G T433 (mkF m 274 #[.val (.long q0), .second, iv q1, iv q2, iv (q2 &&& (3 : Int32)), iv (((q2.toUInt32 >>> ((2 : Int32) &&& 31).toUInt32).toInt32) ^^^ (-1 : Int32)), rv x294, iv 3, rv x385, .val .null, .val .null] [(.int 1)])
          have J434 : Own.Stp Z consts_1 vm0 h0 vm295 h295 [] := Own.Stp.trans J294 J295 (all0) all0
          have J435 : Own.Stp Z consts_1 vm0 h0 vm295 h297 [] := Own.Stp.trans J434 J297 (all0) (allS (Or.inr (Nat.le_of_eq g_x294.symm)) all0)
          have J436 : Own.Stp Z consts_1 vm0 h0 vm298 h298 [] := Own.Stp.trans J435 J298 (all0) all0
          have J437 : Own.Stp Z consts_1 vm0 h0 vm298 h300 [] := Own.Stp.trans J436 J300 (all0) (allS (Or.inr (Nat.le_of_eq g_x294.symm)) all0)
          have J438 : Own.Stp Z consts_1 vm0 h0 vm301 h301 [] := Own.Stp.trans J437 J301 (all0) all0
          have J439 : Own.Stp Z consts_1 vm0 h0 vm301 h303 [] := Own.Stp.trans J438 J303 (all0) (allS (Or.inr (Nat.le_of_eq g_x294.symm)) all0)
          have J440 : Own.Stp Z consts_1 vm0 h0 vm304 h304 [] := Own.Stp.trans J439 J304 (all0) all0
          have J441 : Own.Stp Z consts_1 vm0 h0 vm304 h306 [] := Own.Stp.trans J440 J306 (all0) (allS (Or.inr (Nat.le_of_eq g_x294.symm)) all0)
          have J442 : Own.Stp Z consts_1 vm0 h0 vm307 h307 [] := Own.Stp.trans J441 J307 (all0) all0
          have J443 : Own.Stp Z consts_1 vm0 h0 vm307 h309 [] := Own.Stp.trans J442 J309 (all0) (allS (Or.inr (Nat.le_of_eq g_x294.symm)) all0)
          have J444 : Own.Stp Z consts_1 vm0 h0 vm310 h310 [] := Own.Stp.trans J443 J310 (all0) all0
          have J445 : Own.Stp Z consts_1 vm0 h0 vm310 h312 [] := Own.Stp.trans J444 J312 (all0) (allS (Or.inr (Nat.le_of_eq g_x294.symm)) all0)
          have J446 : Own.Stp Z consts_1 vm0 h0 vm313 h313 [] := Own.Stp.trans J445 J313 (all0) all0
          have J447 : Own.Stp Z consts_1 vm0 h0 vm313 h315 [] := Own.Stp.trans J446 J315 (all0) (allS (Or.inr (Nat.le_of_eq g_x294.symm)) all0)
          have J448 : Own.Stp Z consts_1 vm0 h0 vm316 h316 [] := Own.Stp.trans J447 J316 (all0) all0
          have J449 : Own.Stp Z consts_1 vm0 h0 vm316 h318 [] := Own.Stp.trans J448 J318 (all0) (allS (Or.inr (Nat.le_of_eq g_x294.symm)) all0)
          have J450 : Own.Stp Z consts_1 vm0 h0 vm385 h385 [] := Own.Stp.trans J449 J385 (all0) all0
          have J451 : Own.Stp Z consts_1 vm0 h0 vm432 h432 [] := Own.Stp.trans J450 J432 (all0) all0
          have J452 : Own.Stp Z consts_1 vm0 h0 vm433 h433 [] := Own.Stp.trans J451 J433 (all0) all0
          exact Own.Sit.retN hR S433 hx (t := .boolean) hret (by simp) (hb hby at_274) (by decide) (by decide) ⟨J452.1, rfl⟩
    ·
      refine hG.st (fun t q => XS.icmpYes S385.here hx rfl (pc0 := 156) (pc' := 182) rfl (hb hby at_156) rfl (feq hc156).2 (by decide) (by decide) (XS.iload S385.here hx rfl (hb hby at_182) rfl (XS.bipush S385.here hx rfl (hb hby at_184) (XS.icmpYes S385.here hx rfl (pc0 := 186) (pc' := 248) rfl (hb hby at_186) rfl (feq (by decide : ¬ ((3 : Int32) = (6 : Int32)))).2 (by decide) (by decide) (XS.aload S385.here hx rfl (hb hby at_248) rfl rfl q))))) ?_
      show G T385 (mkF m 250 #[.val (.long q0), .second, iv q1, iv q2, iv (q2 &&& (3 : Int32)), iv (((q2.toUInt32 >>> ((2 : Int32) &&& 31).toUInt32).toInt32) ^^^ (-1 : Int32)), rv x294, iv 3, rv x385, .val .null, .unset] [(.ref x385)])
      refine Own.Sit.callS hG S385 hx hEL (as := [(.ref x385)]) (hW 41 _ rfl) (hW 42 _ rfl) (hW 43 _ rfl) (hW 44 _ rfl) (by decide) (own_named l Z a0 H x385 N y385 ([c295, c298, c301] : List Int32) h385 S385.old St385) own_pdf4991c rfl rfl (hz _ rfl) (rest := []) rfl (W := 0) (by show 2 * 0 + _ ≤ _; exact Nat.le_of_eq rfl) (hb hby at_250) (by decide) (by decide) (by decide) (by decide) (fun v453 vm453 T453 h453 S453 C453 q453 => ?_)
      obtain ⟨K453, o453, rfl, E453, qq453⟩ := q453
      have J453 : Own.Stp Z consts_1 vm385 h385 vm453 h453 [] := ⟨K453, C453⟩
      rcases qq453 with ⟨qa453, F453⟩ | ⟨qa453, F453⟩ | ⟨qa453, F453⟩
      ·
        simp only [List.cons.injEq, and_true] at qa453
        exact absurd qa453.1.symm hc156
      ·
        simp at qa453
      ·
        show G T453 (mkF m 253 #[.val (.long q0), .second, iv q1, iv q2, iv (q2 &&& (3 : Int32)), iv (((q2.toUInt32 >>> ((2 : Int32) &&& 31).toUInt32).toInt32) ^^^ (-1 : Int32)), rv x294, iv 3, rv x385, .val .null, .unset] [(.ref o453)])
        refine hG.st (fun t q => XS.aconstNull S453.here hx rfl (hb hby at_253) q) ?_
        show G T453 (mkF m 254 #[.val (.long q0), .second, iv q1, iv q2, iv (q2 &&& (3 : Int32)), iv (((q2.toUInt32 >>> ((2 : Int32) &&& 31).toUInt32).toInt32) ^^^ (-1 : Int32)), rv x294, iv 3, rv x385, .val .null, .unset] [.null, (.ref o453)])
        refine Own.Sit.callV hG S453 hx hEL (as := [.null]) (hW 79 _ rfl) (hW 80 _ rfl) (hW 82 _ rfl) (hW 81 _ rfl) (hW 76 _ rfl) (hW 83 _ rfl) (by decide) E453 (own_orN l Z a0 H o453 h453 S453.old E453 F453) own_pdc2743d rfl rfl (hz _ rfl) (rest := []) rfl (W := 0) (by show 2 * 0 + _ ≤ _; exact Nat.le_of_eq rfl) (hb hby at_254) (by decide) (by decide) (by decide) (by decide) (fun v454 vm454 T454 h454 S454 C454 q454 => ?_)
        obtain ⟨K454, rfl⟩ := q454
        have J454 : Own.Stp Z consts_1 vm453 h453 vm454 h454 [] := ⟨K454, C454⟩
        show G T454 (mkF m 257 #[.val (.long q0), .second, iv q1, iv q2, iv (q2 &&& (3 : Int32)), iv (((q2.toUInt32 >>> ((2 : Int32) &&& 31).toUInt32).toInt32) ^^^ (-1 : Int32)), rv x294, iv 3, rv x385, .val .null, .unset] [.null])
        refine Own.Sit.castNull hG S454 hx rfl rfl (hb hby at_257) ?_
        show G T454 (mkF m 260 #[.val (.long q0), .second, iv q1, iv q2, iv (q2 &&& (3 : Int32)), iv (((q2.toUInt32 >>> ((2 : Int32) &&& 31).toUInt32).toInt32) ^^^ (-1 : Int32)), rv x294, iv 3, rv x385, .val .null, .unset] [.null])
        refine hG.st (fun t q => XS.astore S454.here hx rfl (hb hby at_260) rfl rfl (l' := #[.val (.long q0), .second, iv q1, iv q2, iv (q2 &&& (3 : Int32)), iv (((q2.toUInt32 >>> ((2 : Int32) &&& 31).toUInt32).toInt32) ^^^ (-1 : Int32)), rv x294, iv 3, rv x385, .val .null, .val .null]) rfl (XS.aload S454.here hx rfl (hb hby at_262) rfl rfl (XS.aload S454.here hx rfl (hb hby at_264) rfl rfl q))) ?_
        show G T454 (mkF m 266 #[.val (.long q0), .second, iv q1, iv q2, iv (q2 &&& (3 : Int32)), iv (((q2.toUInt32 >>> ((2 : Int32) &&& 31).toUInt32).toInt32) ^^^ (-1 : Int32)), rv x294, iv 3, rv x385, .val .null, .val .null] [.null, .null])
        refine Own.Sit.acmp hG S454 hx (g := (mkF m 266 #[.val (.long q0), .second, iv q1, iv q2, iv (q2 &&& (3 : Int32)), iv (((q2.toUInt32 >>> ((2 : Int32) &&& 31).toUInt32).toInt32) ^^^ (-1 : Int32)), rv x294, iv 3, rv x385, .val .null, .val .null] [.null, .null])) rfl rfl rfl (pc0 := 266) (pc' := 269) (same := true) rfl (hb hby at_266) rfl (decide_eq_true rfl) (by decide) (by decide) ?_
        show G T454 (mkF m 269 #[.val (.long q0), .second, iv q1, iv q2, iv (q2 &&& (3 : Int32)), iv (((q2.toUInt32 >>> ((2 : Int32) &&& 31).toUInt32).toInt32) ^^^ (-1 : Int32)), rv x294, iv 3, rv x385, .val .null, .val .null] [])
        refine hG.st (fun t q => XS.iconst S454.here hx rfl (hb hby at_269) (XS.goto S454.here hx rfl (pc0 := 270) (pc' := 274) rfl (hb hby at_270) (by decide) (by decide) q)) ?_
        show G T454 (mkF m 274 #[.val (.long q0), .second, iv q1, iv q2, iv (q2 &&& (3 : Int32)), iv (((q2.toUInt32 >>> ((2 : Int32) &&& 31).toUInt32).toInt32) ^^^ (-1 : Int32)), rv x294, iv 3, rv x385, .val .null, .val .null] [(.int 1)])
        have J455 : Own.Stp Z consts_1 vm0 h0 vm295 h295 [] := Own.Stp.trans J294 J295 (all0) all0
        have J456 : Own.Stp Z consts_1 vm0 h0 vm295 h297 [] := Own.Stp.trans J455 J297 (all0) (allS (Or.inr (Nat.le_of_eq g_x294.symm)) all0)
        have J457 : Own.Stp Z consts_1 vm0 h0 vm298 h298 [] := Own.Stp.trans J456 J298 (all0) all0
        have J458 : Own.Stp Z consts_1 vm0 h0 vm298 h300 [] := Own.Stp.trans J457 J300 (all0) (allS (Or.inr (Nat.le_of_eq g_x294.symm)) all0)
        have J459 : Own.Stp Z consts_1 vm0 h0 vm301 h301 [] := Own.Stp.trans J458 J301 (all0) all0
        have J460 : Own.Stp Z consts_1 vm0 h0 vm301 h303 [] := Own.Stp.trans J459 J303 (all0) (allS (Or.inr (Nat.le_of_eq g_x294.symm)) all0)
        have J461 : Own.Stp Z consts_1 vm0 h0 vm304 h304 [] := Own.Stp.trans J460 J304 (all0) all0
        have J462 : Own.Stp Z consts_1 vm0 h0 vm304 h306 [] := Own.Stp.trans J461 J306 (all0) (allS (Or.inr (Nat.le_of_eq g_x294.symm)) all0)
        have J463 : Own.Stp Z consts_1 vm0 h0 vm307 h307 [] := Own.Stp.trans J462 J307 (all0) all0
        have J464 : Own.Stp Z consts_1 vm0 h0 vm307 h309 [] := Own.Stp.trans J463 J309 (all0) (allS (Or.inr (Nat.le_of_eq g_x294.symm)) all0)
        have J465 : Own.Stp Z consts_1 vm0 h0 vm310 h310 [] := Own.Stp.trans J464 J310 (all0) all0
        have J466 : Own.Stp Z consts_1 vm0 h0 vm310 h312 [] := Own.Stp.trans J465 J312 (all0) (allS (Or.inr (Nat.le_of_eq g_x294.symm)) all0)
        have J467 : Own.Stp Z consts_1 vm0 h0 vm313 h313 [] := Own.Stp.trans J466 J313 (all0) all0
        have J468 : Own.Stp Z consts_1 vm0 h0 vm313 h315 [] := Own.Stp.trans J467 J315 (all0) (allS (Or.inr (Nat.le_of_eq g_x294.symm)) all0)
        have J469 : Own.Stp Z consts_1 vm0 h0 vm316 h316 [] := Own.Stp.trans J468 J316 (all0) all0
        have J470 : Own.Stp Z consts_1 vm0 h0 vm316 h318 [] := Own.Stp.trans J469 J318 (all0) (allS (Or.inr (Nat.le_of_eq g_x294.symm)) all0)
        have J471 : Own.Stp Z consts_1 vm0 h0 vm385 h385 [] := Own.Stp.trans J470 J385 (all0) all0
        have J472 : Own.Stp Z consts_1 vm0 h0 vm453 h453 [] := Own.Stp.trans J471 J453 (all0) all0
        have J473 : Own.Stp Z consts_1 vm0 h0 vm454 h454 [] := Own.Stp.trans J472 J454 (all0) all0
        exact Own.Sit.retN hR S454 hx (t := .boolean) hret (by simp) (hb hby at_274) (by decide) (by decide) ⟨J473.1, rfl⟩
  by_cases hk4 : (q1 &&& (7 : Int32)) = (4 : Int32)
  ·
    rw [hk4]
    show G T318 (mkF m 132 #[.val (.long q0), .second, iv q1, iv q2, iv (q2 &&& (3 : Int32)), iv (((q2.toUInt32 >>> ((2 : Int32) &&& 31).toUInt32).toInt32) ^^^ (-1 : Int32)), rv x294, iv 4, .unset, .unset, .unset] [])
    refine hG.st (fun t q => XS.aload S318.here hx rfl (hb hby at_132) rfl rfl (XS.iload S318.here hx rfl (hb hby at_134) rfl q)) ?_
    show G T318 (mkF m 136 #[.val (.long q0), .second, iv q1, iv q2, iv (q2 &&& (3 : Int32)), iv (((q2.toUInt32 >>> ((2 : Int32) &&& 31).toUInt32).toInt32) ^^^ (-1 : Int32)), rv x294, iv 4, .unset, .unset, .unset] [(.int 4), (.ref x294)])
    refine Own.Sit.callS hG S318 hx hEL (as := [(.ref x294), (.int 4)]) (hW 9 _ rfl) (hW 10 _ rfl) (hW 3 _ rfl) (hW 11 _ rfl) (by decide) (own_str4 l Z a0 H x294 c295 c298 c301 c304 c307 c310 c313 c316 h318 S318.old V318 r295 r298 r301 r304 r307 r310 r313 r316) own_pde07951 rfl rfl (hz _ rfl) (rest := []) rfl (W := 0) (by show 2 * 0 + _ ≤ _; exact Nat.le_of_eq rfl) (hb hby at_136) (by decide) (by decide) (by decide) (by decide) (fun v474 vm474 T474 h474 S474 C474 q474 => ?_)
    obtain ⟨K474, x474, y474, rfl, St474, u474⟩ := q474
    have J474 : Own.Stp Z consts_1 vm316 h318 vm474 h474 [] := ⟨K474, C474⟩
    show G T474 (mkF m 139 #[.val (.long q0), .second, iv q1, iv q2, iv (q2 &&& (3 : Int32)), iv (((q2.toUInt32 >>> ((2 : Int32) &&& 31).toUInt32).toInt32) ^^^ (-1 : Int32)), rv x294, iv 4, .unset, .unset, .unset] [(.ref x474)])
    refine hG.st (fun t q => XS.astore S474.here hx rfl (hb hby at_139) rfl rfl (l' := #[.val (.long q0), .second, iv q1, iv q2, iv (q2 &&& (3 : Int32)), iv (((q2.toUInt32 >>> ((2 : Int32) &&& 31).toUInt32).toInt32) ^^^ (-1 : Int32)), rv x294, iv 4, rv x474, .unset, .unset]) rfl (XS.aconstNull S474.here hx rfl (hb hby at_141) (XS.astore S474.here hx rfl (hb hby at_142) rfl rfl (l' := #[.val (.long q0), .second, iv q1, iv q2, iv (q2 &&& (3 : Int32)), iv (((q2.toUInt32 >>> ((2 : Int32) &&& 31).toUInt32).toInt32) ^^^ (-1 : Int32)), rv x294, iv 4, rv x474, .val .null, .unset]) rfl (XS.iload S474.here hx rfl (hb hby at_144) rfl (XS.iconst S474.here hx rfl (hb hby at_146) (XS.icmpYes S474.here hx rfl (pc0 := 147) (pc' := 182) rfl (hb hby at_147) rfl (feq (by decide : ¬ ((4 : Int32) = (3 : Int32)))).2 (by decide) (by decide) q)))))) ?_
    show G T474 (mkF m 182 #[.val (.long q0), .second, iv q1, iv q2, iv (q2 &&& (3 : Int32)), iv (((q2.toUInt32 >>> ((2 : Int32) &&& 31).toUInt32).toInt32) ^^^ (-1 : Int32)), rv x294, iv 4, rv x474, .val .null, .unset] [])
    refine hG.st (fun t q => XS.iload S474.here hx rfl (hb hby at_182) rfl (XS.bipush S474.here hx rfl (hb hby at_184) (XS.icmpYes S474.here hx rfl (pc0 := 186) (pc' := 248) rfl (hb hby at_186) rfl (feq (by decide : ¬ ((4 : Int32) = (6 : Int32)))).2 (by decide) (by decide) (XS.aload S474.here hx rfl (hb hby at_248) rfl rfl q)))) ?_
    show G T474 (mkF m 250 #[.val (.long q0), .second, iv q1, iv q2, iv (q2 &&& (3 : Int32)), iv (((q2.toUInt32 >>> ((2 : Int32) &&& 31).toUInt32).toInt32) ^^^ (-1 : Int32)), rv x294, iv 4, rv x474, .val .null, .unset] [(.ref x474)])
    refine Own.Sit.callS hG S474 hx hEL (as := [(.ref x474)]) (hW 41 _ rfl) (hW 42 _ rfl) (hW 43 _ rfl) (hW 44 _ rfl) (by decide) (own_named l Z a0 H x474 N y474 ([c295, c298, c301, c304] : List Int32) h474 S474.old St474) own_pdf4991c rfl rfl (hz _ rfl) (rest := []) rfl (W := 0) (by show 2 * 0 + _ ≤ _; exact Nat.le_of_eq rfl) (hb hby at_250) (by decide) (by decide) (by decide) (by decide) (fun v475 vm475 T475 h475 S475 C475 q475 => ?_)
    obtain ⟨K475, o475, rfl, E475, qq475⟩ := q475
    have J475 : Own.Stp Z consts_1 vm474 h474 vm475 h475 [] := ⟨K475, C475⟩
    rcases qq475 with ⟨qa475, F475⟩ | ⟨qa475, F475⟩ | ⟨qa475, F475⟩
    ·
      simp at qa475
    ·
      simp at qa475
    ·
      show G T475 (mkF m 253 #[.val (.long q0), .second, iv q1, iv q2, iv (q2 &&& (3 : Int32)), iv (((q2.toUInt32 >>> ((2 : Int32) &&& 31).toUInt32).toInt32) ^^^ (-1 : Int32)), rv x294, iv 4, rv x474, .val .null, .unset] [(.ref o475)])
      refine hG.st (fun t q => XS.aconstNull S475.here hx rfl (hb hby at_253) q) ?_
      show G T475 (mkF m 254 #[.val (.long q0), .second, iv q1, iv q2, iv (q2 &&& (3 : Int32)), iv (((q2.toUInt32 >>> ((2 : Int32) &&& 31).toUInt32).toInt32) ^^^ (-1 : Int32)), rv x294, iv 4, rv x474, .val .null, .unset] [.null, (.ref o475)])
      refine Own.Sit.callV hG S475 hx hEL (as := [.null]) (hW 79 _ rfl) (hW 80 _ rfl) (hW 82 _ rfl) (hW 81 _ rfl) (hW 76 _ rfl) (hW 83 _ rfl) (by decide) E475 (own_orN l Z a0 H o475 h475 S475.old E475 F475) own_pdc2743d rfl rfl (hz _ rfl) (rest := []) rfl (W := 0) (by show 2 * 0 + _ ≤ _; exact Nat.le_of_eq rfl) (hb hby at_254) (by decide) (by decide) (by decide) (by decide) (fun v476 vm476 T476 h476 S476 C476 q476 => ?_)
      obtain ⟨K476, rfl⟩ := q476
      have J476 : Own.Stp Z consts_1 vm475 h475 vm476 h476 [] := ⟨K476, C476⟩
      show G T476 (mkF m 257 #[.val (.long q0), .second, iv q1, iv q2, iv (q2 &&& (3 : Int32)), iv (((q2.toUInt32 >>> ((2 : Int32) &&& 31).toUInt32).toInt32) ^^^ (-1 : Int32)), rv x294, iv 4, rv x474, .val .null, .unset] [.null])
      refine Own.Sit.castNull hG S476 hx rfl rfl (hb hby at_257) ?_
      show G T476 (mkF m 260 #[.val (.long q0), .second, iv q1, iv q2, iv (q2 &&& (3 : Int32)), iv (((q2.toUInt32 >>> ((2 : Int32) &&& 31).toUInt32).toInt32) ^^^ (-1 : Int32)), rv x294, iv 4, rv x474, .val .null, .unset] [.null])
      refine hG.st (fun t q => XS.astore S476.here hx rfl (hb hby at_260) rfl rfl (l' := #[.val (.long q0), .second, iv q1, iv q2, iv (q2 &&& (3 : Int32)), iv (((q2.toUInt32 >>> ((2 : Int32) &&& 31).toUInt32).toInt32) ^^^ (-1 : Int32)), rv x294, iv 4, rv x474, .val .null, .val .null]) rfl (XS.aload S476.here hx rfl (hb hby at_262) rfl rfl (XS.aload S476.here hx rfl (hb hby at_264) rfl rfl q))) ?_
      show G T476 (mkF m 266 #[.val (.long q0), .second, iv q1, iv q2, iv (q2 &&& (3 : Int32)), iv (((q2.toUInt32 >>> ((2 : Int32) &&& 31).toUInt32).toInt32) ^^^ (-1 : Int32)), rv x294, iv 4, rv x474, .val .null, .val .null] [.null, .null])
      refine Own.Sit.acmp hG S476 hx (g := (mkF m 266 #[.val (.long q0), .second, iv q1, iv q2, iv (q2 &&& (3 : Int32)), iv (((q2.toUInt32 >>> ((2 : Int32) &&& 31).toUInt32).toInt32) ^^^ (-1 : Int32)), rv x294, iv 4, rv x474, .val .null, .val .null] [.null, .null])) rfl rfl rfl (pc0 := 266) (pc' := 269) (same := true) rfl (hb hby at_266) rfl (decide_eq_true rfl) (by decide) (by decide) ?_
      show G T476 (mkF m 269 #[.val (.long q0), .second, iv q1, iv q2, iv (q2 &&& (3 : Int32)), iv (((q2.toUInt32 >>> ((2 : Int32) &&& 31).toUInt32).toInt32) ^^^ (-1 : Int32)), rv x294, iv 4, rv x474, .val .null, .val .null] [])
      refine hG.st (fun t q => XS.iconst S476.here hx rfl (hb hby at_269) (XS.goto S476.here hx rfl (pc0 := 270) (pc' := 274) rfl (hb hby at_270) (by decide) (by decide) q)) ?_
      show G T476 (mkF m 274 #[.val (.long q0), .second, iv q1, iv q2, iv (q2 &&& (3 : Int32)), iv (((q2.toUInt32 >>> ((2 : Int32) &&& 31).toUInt32).toInt32) ^^^ (-1 : Int32)), rv x294, iv 4, rv x474, .val .null, .val .null] [(.int 1)])
      have J477 : Own.Stp Z consts_1 vm0 h0 vm295 h295 [] := Own.Stp.trans J294 J295 (all0) all0
      have J478 : Own.Stp Z consts_1 vm0 h0 vm295 h297 [] := Own.Stp.trans J477 J297 (all0) (allS (Or.inr (Nat.le_of_eq g_x294.symm)) all0)
      have J479 : Own.Stp Z consts_1 vm0 h0 vm298 h298 [] := Own.Stp.trans J478 J298 (all0) all0
      have J480 : Own.Stp Z consts_1 vm0 h0 vm298 h300 [] := Own.Stp.trans J479 J300 (all0) (allS (Or.inr (Nat.le_of_eq g_x294.symm)) all0)
      have J481 : Own.Stp Z consts_1 vm0 h0 vm301 h301 [] := Own.Stp.trans J480 J301 (all0) all0
      have J482 : Own.Stp Z consts_1 vm0 h0 vm301 h303 [] := Own.Stp.trans J481 J303 (all0) (allS (Or.inr (Nat.le_of_eq g_x294.symm)) all0)
      have J483 : Own.Stp Z consts_1 vm0 h0 vm304 h304 [] := Own.Stp.trans J482 J304 (all0) all0
      have J484 : Own.Stp Z consts_1 vm0 h0 vm304 h306 [] := Own.Stp.trans J483 J306 (all0) (allS (Or.inr (Nat.le_of_eq g_x294.symm)) all0)
      have J485 : Own.Stp Z consts_1 vm0 h0 vm307 h307 [] := Own.Stp.trans J484 J307 (all0) all0
      have J486 : Own.Stp Z consts_1 vm0 h0 vm307 h309 [] := Own.Stp.trans J485 J309 (all0) (allS (Or.inr (Nat.le_of_eq g_x294.symm)) all0)
      have J487 : Own.Stp Z consts_1 vm0 h0 vm310 h310 [] := Own.Stp.trans J486 J310 (all0) all0
      have J488 : Own.Stp Z consts_1 vm0 h0 vm310 h312 [] := Own.Stp.trans J487 J312 (all0) (allS (Or.inr (Nat.le_of_eq g_x294.symm)) all0)
      have J489 : Own.Stp Z consts_1 vm0 h0 vm313 h313 [] := Own.Stp.trans J488 J313 (all0) all0
      have J490 : Own.Stp Z consts_1 vm0 h0 vm313 h315 [] := Own.Stp.trans J489 J315 (all0) (allS (Or.inr (Nat.le_of_eq g_x294.symm)) all0)
      have J491 : Own.Stp Z consts_1 vm0 h0 vm316 h316 [] := Own.Stp.trans J490 J316 (all0) all0
      have J492 : Own.Stp Z consts_1 vm0 h0 vm316 h318 [] := Own.Stp.trans J491 J318 (all0) (allS (Or.inr (Nat.le_of_eq g_x294.symm)) all0)
      have J493 : Own.Stp Z consts_1 vm0 h0 vm474 h474 [] := Own.Stp.trans J492 J474 (all0) all0
      have J494 : Own.Stp Z consts_1 vm0 h0 vm475 h475 [] := Own.Stp.trans J493 J475 (all0) all0
      have J495 : Own.Stp Z consts_1 vm0 h0 vm476 h476 [] := Own.Stp.trans J494 J476 (all0) all0
      exact Own.Sit.retN hR S476 hx (t := .boolean) hret (by simp) (hb hby at_274) (by decide) (by decide) ⟨J495.1, rfl⟩
  by_cases hk5 : (q1 &&& (7 : Int32)) = (5 : Int32)
  ·
    rw [hk5]
    show G T318 (mkF m 132 #[.val (.long q0), .second, iv q1, iv q2, iv (q2 &&& (3 : Int32)), iv (((q2.toUInt32 >>> ((2 : Int32) &&& 31).toUInt32).toInt32) ^^^ (-1 : Int32)), rv x294, iv 5, .unset, .unset, .unset] [])
    refine hG.st (fun t q => XS.aload S318.here hx rfl (hb hby at_132) rfl rfl (XS.iload S318.here hx rfl (hb hby at_134) rfl q)) ?_
    show G T318 (mkF m 136 #[.val (.long q0), .second, iv q1, iv q2, iv (q2 &&& (3 : Int32)), iv (((q2.toUInt32 >>> ((2 : Int32) &&& 31).toUInt32).toInt32) ^^^ (-1 : Int32)), rv x294, iv 5, .unset, .unset, .unset] [(.int 5), (.ref x294)])
    refine Own.Sit.callS hG S318 hx hEL (as := [(.ref x294), (.int 5)]) (hW 9 _ rfl) (hW 10 _ rfl) (hW 3 _ rfl) (hW 11 _ rfl) (by decide) (own_str5 l Z a0 H x294 c295 c298 c301 c304 c307 c310 c313 c316 h318 S318.old V318 r295 r298 r301 r304 r307 r310 r313 r316) own_pde07951 rfl rfl (hz _ rfl) (rest := []) rfl (W := 0) (by show 2 * 0 + _ ≤ _; exact Nat.le_of_eq rfl) (hb hby at_136) (by decide) (by decide) (by decide) (by decide) (fun v496 vm496 T496 h496 S496 C496 q496 => ?_)
    obtain ⟨K496, x496, y496, rfl, St496, u496⟩ := q496
    have J496 : Own.Stp Z consts_1 vm316 h318 vm496 h496 [] := ⟨K496, C496⟩
    show G T496 (mkF m 139 #[.val (.long q0), .second, iv q1, iv q2, iv (q2 &&& (3 : Int32)), iv (((q2.toUInt32 >>> ((2 : Int32) &&& 31).toUInt32).toInt32) ^^^ (-1 : Int32)), rv x294, iv 5, .unset, .unset, .unset] [(.ref x496)])
    refine hG.st (fun t q => XS.astore S496.here hx rfl (hb hby at_139) rfl rfl (l' := #[.val (.long q0), .second, iv q1, iv q2, iv (q2 &&& (3 : Int32)), iv (((q2.toUInt32 >>> ((2 : Int32) &&& 31).toUInt32).toInt32) ^^^ (-1 : Int32)), rv x294, iv 5, rv x496, .unset, .unset]) rfl (XS.aconstNull S496.here hx rfl (hb hby at_141) (XS.astore S496.here hx rfl (hb hby at_142) rfl rfl (l' := #[.val (.long q0), .second, iv q1, iv q2, iv (q2 &&& (3 : Int32)), iv (((q2.toUInt32 >>> ((2 : Int32) &&& 31).toUInt32).toInt32) ^^^ (-1 : Int32)), rv x294, iv 5, rv x496, .val .null, .unset]) rfl (XS.iload S496.here hx rfl (hb hby at_144) rfl (XS.iconst S496.here hx rfl (hb hby at_146) (XS.icmpYes S496.here hx rfl (pc0 := 147) (pc' := 182) rfl (hb hby at_147) rfl (feq (by decide : ¬ ((5 : Int32) = (3 : Int32)))).2 (by decide) (by decide) q)))))) ?_
    show G T496 (mkF m 182 #[.val (.long q0), .second, iv q1, iv q2, iv (q2 &&& (3 : Int32)), iv (((q2.toUInt32 >>> ((2 : Int32) &&& 31).toUInt32).toInt32) ^^^ (-1 : Int32)), rv x294, iv 5, rv x496, .val .null, .unset] [])
    refine hG.st (fun t q => XS.iload S496.here hx rfl (hb hby at_182) rfl (XS.bipush S496.here hx rfl (hb hby at_184) (XS.icmpYes S496.here hx rfl (pc0 := 186) (pc' := 248) rfl (hb hby at_186) rfl (feq (by decide : ¬ ((5 : Int32) = (6 : Int32)))).2 (by decide) (by decide) (XS.aload S496.here hx rfl (hb hby at_248) rfl rfl q)))) ?_
    show G T496 (mkF m 250 #[.val (.long q0), .second, iv q1, iv q2, iv (q2 &&& (3 : Int32)), iv (((q2.toUInt32 >>> ((2 : Int32) &&& 31).toUInt32).toInt32) ^^^ (-1 : Int32)), rv x294, iv 5, rv x496, .val .null, .unset] [(.ref x496)])
    refine Own.Sit.callS hG S496 hx hEL (as := [(.ref x496)]) (hW 41 _ rfl) (hW 42 _ rfl) (hW 43 _ rfl) (hW 44 _ rfl) (by decide) (own_named l Z a0 H x496 N y496 ([c295, c298, c301, c304, c307] : List Int32) h496 S496.old St496) own_pdf4991c rfl rfl (hz _ rfl) (rest := []) rfl (W := 0) (by show 2 * 0 + _ ≤ _; exact Nat.le_of_eq rfl) (hb hby at_250) (by decide) (by decide) (by decide) (by decide) (fun v497 vm497 T497 h497 S497 C497 q497 => ?_)
    obtain ⟨K497, o497, rfl, E497, qq497⟩ := q497
    have J497 : Own.Stp Z consts_1 vm496 h496 vm497 h497 [] := ⟨K497, C497⟩
    rcases qq497 with ⟨qa497, F497⟩ | ⟨qa497, F497⟩ | ⟨qa497, F497⟩
    ·
      simp at qa497
    ·
      simp at qa497
    ·
      show G T497 (mkF m 253 #[.val (.long q0), .second, iv q1, iv q2, iv (q2 &&& (3 : Int32)), iv (((q2.toUInt32 >>> ((2 : Int32) &&& 31).toUInt32).toInt32) ^^^ (-1 : Int32)), rv x294, iv 5, rv x496, .val .null, .unset] [(.ref o497)])
      refine hG.st (fun t q => XS.aconstNull S497.here hx rfl (hb hby at_253) q) ?_
      show G T497 (mkF m 254 #[.val (.long q0), .second, iv q1, iv q2, iv (q2 &&& (3 : Int32)), iv (((q2.toUInt32 >>> ((2 : Int32) &&& 31).toUInt32).toInt32) ^^^ (-1 : Int32)), rv x294, iv 5, rv x496, .val .null, .unset] [.null, (.ref o497)])
      refine Own.Sit.callV hG S497 hx hEL (as := [.null]) (hW 79 _ rfl) (hW 80 _ rfl) (hW 82 _ rfl) (hW 81 _ rfl) (hW 76 _ rfl) (hW 83 _ rfl) (by decide) E497 (own_orN l Z a0 H o497 h497 S497.old E497 F497) own_pdc2743d rfl rfl (hz _ rfl) (rest := []) rfl (W := 0) (by show 2 * 0 + _ ≤ _; exact Nat.le_of_eq rfl) (hb hby at_254) (by decide) (by decide) (by decide) (by decide) (fun v498 vm498 T498 h498 S498 C498 q498 => ?_)
      obtain ⟨K498, rfl⟩ := q498
      have J498 : Own.Stp Z consts_1 vm497 h497 vm498 h498 [] := ⟨K498, C498⟩
      show G T498 (mkF m 257 #[.val (.long q0), .second, iv q1, iv q2, iv (q2 &&& (3 : Int32)), iv (((q2.toUInt32 >>> ((2 : Int32) &&& 31).toUInt32).toInt32) ^^^ (-1 : Int32)), rv x294, iv 5, rv x496, .val .null, .unset] [.null])
      refine Own.Sit.castNull hG S498 hx rfl rfl (hb hby at_257) ?_
      show G T498 (mkF m 260 #[.val (.long q0), .second, iv q1, iv q2, iv (q2 &&& (3 : Int32)), iv (((q2.toUInt32 >>> ((2 : Int32) &&& 31).toUInt32).toInt32) ^^^ (-1 : Int32)), rv x294, iv 5, rv x496, .val .null, .unset] [.null])
      refine hG.st (fun t q => XS.astore S498.here hx rfl (hb hby at_260) rfl rfl (l' := #[.val (.long q0), .second, iv q1, iv q2, iv (q2 &&& (3 : Int32)), iv (((q2.toUInt32 >>> ((2 : Int32) &&& 31).toUInt32).toInt32) ^^^ (-1 : Int32)), rv x294, iv 5, rv x496, .val .null, .val .null]) rfl (XS.aload S498.here hx rfl (hb hby at_262) rfl rfl (XS.aload S498.here hx rfl (hb hby at_264) rfl rfl q))) ?_
      show G T498 (mkF m 266 #[.val (.long q0), .second, iv q1, iv q2, iv (q2 &&& (3 : Int32)), iv (((q2.toUInt32 >>> ((2 : Int32) &&& 31).toUInt32).toInt32) ^^^ (-1 : Int32)), rv x294, iv 5, rv x496, .val .null, .val .null] [.null, .null])
      refine Own.Sit.acmp hG S498 hx (g := (mkF m 266 #[.val (.long q0), .second, iv q1, iv q2, iv (q2 &&& (3 : Int32)), iv (((q2.toUInt32 >>> ((2 : Int32) &&& 31).toUInt32).toInt32) ^^^ (-1 : Int32)), rv x294, iv 5, rv x496, .val .null, .val .null] [.null, .null])) rfl rfl rfl (pc0 := 266) (pc' := 269) (same := true) rfl (hb hby at_266) rfl (decide_eq_true rfl) (by decide) (by decide) ?_
      show G T498 (mkF m 269 #[.val (.long q0), .second, iv q1, iv q2, iv (q2 &&& (3 : Int32)), iv (((q2.toUInt32 >>> ((2 : Int32) &&& 31).toUInt32).toInt32) ^^^ (-1 : Int32)), rv x294, iv 5, rv x496, .val .null, .val .null] [])
      refine hG.st (fun t q => XS.iconst S498.here hx rfl (hb hby at_269) (XS.goto S498.here hx rfl (pc0 := 270) (pc' := 274) rfl (hb hby at_270) (by decide) (by decide) q)) ?_
      show G T498 (mkF m 274 #[.val (.long q0), .second, iv q1, iv q2, iv (q2 &&& (3 : Int32)), iv (((q2.toUInt32 >>> ((2 : Int32) &&& 31).toUInt32).toInt32) ^^^ (-1 : Int32)), rv x294, iv 5, rv x496, .val .null, .val .null] [(.int 1)])
      have J499 : Own.Stp Z consts_1 vm0 h0 vm295 h295 [] := Own.Stp.trans J294 J295 (all0) all0
      have J500 : Own.Stp Z consts_1 vm0 h0 vm295 h297 [] := Own.Stp.trans J499 J297 (all0) (allS (Or.inr (Nat.le_of_eq g_x294.symm)) all0)
      have J501 : Own.Stp Z consts_1 vm0 h0 vm298 h298 [] := Own.Stp.trans J500 J298 (all0) all0
      have J502 : Own.Stp Z consts_1 vm0 h0 vm298 h300 [] := Own.Stp.trans J501 J300 (all0) (allS (Or.inr (Nat.le_of_eq g_x294.symm)) all0)
      have J503 : Own.Stp Z consts_1 vm0 h0 vm301 h301 [] := Own.Stp.trans J502 J301 (all0) all0
      have J504 : Own.Stp Z consts_1 vm0 h0 vm301 h303 [] := Own.Stp.trans J503 J303 (all0) (allS (Or.inr (Nat.le_of_eq g_x294.symm)) all0)
      have J505 : Own.Stp Z consts_1 vm0 h0 vm304 h304 [] := Own.Stp.trans J504 J304 (all0) all0
      have J506 : Own.Stp Z consts_1 vm0 h0 vm304 h306 [] := Own.Stp.trans J505 J306 (all0) (allS (Or.inr (Nat.le_of_eq g_x294.symm)) all0)
      have J507 : Own.Stp Z consts_1 vm0 h0 vm307 h307 [] := Own.Stp.trans J506 J307 (all0) all0
      have J508 : Own.Stp Z consts_1 vm0 h0 vm307 h309 [] := Own.Stp.trans J507 J309 (all0) (allS (Or.inr (Nat.le_of_eq g_x294.symm)) all0)
      have J509 : Own.Stp Z consts_1 vm0 h0 vm310 h310 [] := Own.Stp.trans J508 J310 (all0) all0
      have J510 : Own.Stp Z consts_1 vm0 h0 vm310 h312 [] := Own.Stp.trans J509 J312 (all0) (allS (Or.inr (Nat.le_of_eq g_x294.symm)) all0)
      have J511 : Own.Stp Z consts_1 vm0 h0 vm313 h313 [] := Own.Stp.trans J510 J313 (all0) all0
      have J512 : Own.Stp Z consts_1 vm0 h0 vm313 h315 [] := Own.Stp.trans J511 J315 (all0) (allS (Or.inr (Nat.le_of_eq g_x294.symm)) all0)
      have J513 : Own.Stp Z consts_1 vm0 h0 vm316 h316 [] := Own.Stp.trans J512 J316 (all0) all0
      have J514 : Own.Stp Z consts_1 vm0 h0 vm316 h318 [] := Own.Stp.trans J513 J318 (all0) (allS (Or.inr (Nat.le_of_eq g_x294.symm)) all0)
      have J515 : Own.Stp Z consts_1 vm0 h0 vm496 h496 [] := Own.Stp.trans J514 J496 (all0) all0
      have J516 : Own.Stp Z consts_1 vm0 h0 vm497 h497 [] := Own.Stp.trans J515 J497 (all0) all0
      have J517 : Own.Stp Z consts_1 vm0 h0 vm498 h498 [] := Own.Stp.trans J516 J498 (all0) all0
      exact Own.Sit.retN hR S498 hx (t := .boolean) hret (by simp) (hb hby at_274) (by decide) (by decide) ⟨J517.1, rfl⟩
  by_cases hk6 : (q1 &&& (7 : Int32)) = (6 : Int32)
  ·
    rw [hk6]
    show G T318 (mkF m 132 #[.val (.long q0), .second, iv q1, iv q2, iv (q2 &&& (3 : Int32)), iv (((q2.toUInt32 >>> ((2 : Int32) &&& 31).toUInt32).toInt32) ^^^ (-1 : Int32)), rv x294, iv 6, .unset, .unset, .unset] [])
    refine hG.st (fun t q => XS.aload S318.here hx rfl (hb hby at_132) rfl rfl (XS.iload S318.here hx rfl (hb hby at_134) rfl q)) ?_
    show G T318 (mkF m 136 #[.val (.long q0), .second, iv q1, iv q2, iv (q2 &&& (3 : Int32)), iv (((q2.toUInt32 >>> ((2 : Int32) &&& 31).toUInt32).toInt32) ^^^ (-1 : Int32)), rv x294, iv 6, .unset, .unset, .unset] [(.int 6), (.ref x294)])
    refine Own.Sit.callS hG S318 hx hEL (as := [(.ref x294), (.int 6)]) (hW 9 _ rfl) (hW 10 _ rfl) (hW 3 _ rfl) (hW 11 _ rfl) (by decide) (own_str6 l Z a0 H x294 c295 c298 c301 c304 c307 c310 c313 c316 h318 S318.old V318 r295 r298 r301 r304 r307 r310 r313 r316) own_pde07951 rfl rfl (hz _ rfl) (rest := []) rfl (W := 0) (by show 2 * 0 + _ ≤ _; exact Nat.le_of_eq rfl) (hb hby at_136) (by decide) (by decide) (by decide) (by decide) (fun v518 vm518 T518 h518 S518 C518 q518 => ?_)
    obtain ⟨K518, x518, y518, rfl, St518, u518⟩ := q518
    have J518 : Own.Stp Z consts_1 vm316 h318 vm518 h518 [] := ⟨K518, C518⟩
    show G T518 (mkF m 139 #[.val (.long q0), .second, iv q1, iv q2, iv (q2 &&& (3 : Int32)), iv (((q2.toUInt32 >>> ((2 : Int32) &&& 31).toUInt32).toInt32) ^^^ (-1 : Int32)), rv x294, iv 6, .unset, .unset, .unset] [(.ref x518)])
    refine hG.st (fun t q => XS.astore S518.here hx rfl (hb hby at_139) rfl rfl (l' := #[.val (.long q0), .second, iv q1, iv q2, iv (q2 &&& (3 : Int32)), iv (((q2.toUInt32 >>> ((2 : Int32) &&& 31).toUInt32).toInt32) ^^^ (-1 : Int32)), rv x294, iv 6, rv x518, .unset, .unset]) rfl (XS.aconstNull S518.here hx rfl (hb hby at_141) (XS.astore S518.here hx rfl (hb hby at_142) rfl rfl (l' := #[.val (.long q0), .second, iv q1, iv q2, iv (q2 &&& (3 : Int32)), iv (((q2.toUInt32 >>> ((2 : Int32) &&& 31).toUInt32).toInt32) ^^^ (-1 : Int32)), rv x294, iv 6, rv x518, .val .null, .unset]) rfl (XS.iload S518.here hx rfl (hb hby at_144) rfl (XS.iconst S518.here hx rfl (hb hby at_146) (XS.icmpYes S518.here hx rfl (pc0 := 147) (pc' := 182) rfl (hb hby at_147) rfl (feq (by decide : ¬ ((6 : Int32) = (3 : Int32)))).2 (by decide) (by decide) q)))))) ?_
    show G T518 (mkF m 182 #[.val (.long q0), .second, iv q1, iv q2, iv (q2 &&& (3 : Int32)), iv (((q2.toUInt32 >>> ((2 : Int32) &&& 31).toUInt32).toInt32) ^^^ (-1 : Int32)), rv x294, iv 6, rv x518, .val .null, .unset] [])
    refine hG.st (fun t q => XS.iload S518.here hx rfl (hb hby at_182) rfl (XS.bipush S518.here hx rfl (hb hby at_184) (XS.icmpNo S518.here hx rfl (hb hby at_186) rfl (teq (by decide : (6 : Int32) = (6 : Int32))).2 (XS.aload S518.here hx rfl (hb hby at_189) rfl rfl (XS.iconst S518.here hx rfl (hb hby at_191) q))))) ?_
    show G T518 (mkF m 192 #[.val (.long q0), .second, iv q1, iv q2, iv (q2 &&& (3 : Int32)), iv (((q2.toUInt32 >>> ((2 : Int32) &&& 31).toUInt32).toInt32) ^^^ (-1 : Int32)), rv x294, iv 6, rv x518, .val .null, .unset] [(.int 0), (.ref x294)])
    have V519 := J518.arv V318 nin0
    refine Own.Sit.caload hG S518 hx V519 ⟨by decide, by decide⟩ rfl rfl rfl (hb hby at_192) ?_
    show G T518 (mkF m 193 #[.val (.long q0), .second, iv q1, iv q2, iv (q2 &&& (3 : Int32)), iv (((q2.toUInt32 >>> ((2 : Int32) &&& 31).toUInt32).toInt32) ^^^ (-1 : Int32)), rv x294, iv 6, rv x518, .val .null, .unset] [(.int c295)])
    refine hG.st (fun t q => XS.bipush S518.here hx rfl (hb hby at_193) q) ?_
    show G T518 (mkF m 195 #[.val (.long q0), .second, iv q1, iv q2, iv (q2 &&& (3 : Int32)), iv (((q2.toUInt32 >>> ((2 : Int32) &&& 31).toUInt32).toInt32) ^^^ (-1 : Int32)), rv x294, iv 6, rv x518, .val .null, .unset] [(.int 100), (.int c295)])
    by_cases hc195 : c295 = (100 : Int32)
    ·
      refine hG.st (fun t q => XS.icmpNo S518.here hx rfl (hb hby at_195) rfl (teq hc195).2 (XS.aload S518.here hx rfl (hb hby at_198) rfl rfl (XS.iconst S518.here hx rfl (hb hby at_200) q))) ?_
      show G T518 (mkF m 201 #[.val (.long q0), .second, iv q1, iv q2, iv (q2 &&& (3 : Int32)), iv (((q2.toUInt32 >>> ((2 : Int32) &&& 31).toUInt32).toInt32) ^^^ (-1 : Int32)), rv x294, iv 6, rv x518, .val .null, .unset] [(.int 1), (.ref x294)])
      refine Own.Sit.caload hG S518 hx V519 ⟨by decide, by decide⟩ rfl rfl rfl (hb hby at_201) ?_
      show G T518 (mkF m 202 #[.val (.long q0), .second, iv q1, iv q2, iv (q2 &&& (3 : Int32)), iv (((q2.toUInt32 >>> ((2 : Int32) &&& 31).toUInt32).toInt32) ^^^ (-1 : Int32)), rv x294, iv 6, rv x518, .val .null, .unset] [(.int c298)])
      refine hG.st (fun t q => XS.bipush S518.here hx rfl (hb hby at_202) q) ?_
      show G T518 (mkF m 204 #[.val (.long q0), .second, iv q1, iv q2, iv (q2 &&& (3 : Int32)), iv (((q2.toUInt32 >>> ((2 : Int32) &&& 31).toUInt32).toInt32) ^^^ (-1 : Int32)), rv x294, iv 6, rv x518, .val .null, .unset] [(.int 101), (.int c298)])
      by_cases hc204 : c298 = (101 : Int32)
      ·
        refine hG.st (fun t q => XS.icmpNo S518.here hx rfl (hb hby at_204) rfl (teq hc204).2 (XS.aload S518.here hx rfl (hb hby at_207) rfl rfl (XS.iconst S518.here hx rfl (hb hby at_209) q))) ?_
        show G T518 (mkF m 210 #[.val (.long q0), .second, iv q1, iv q2, iv (q2 &&& (3 : Int32)), iv (((q2.toUInt32 >>> ((2 : Int32) &&& 31).toUInt32).toInt32) ^^^ (-1 : Int32)), rv x294, iv 6, rv x518, .val .null, .unset] [(.int 2), (.ref x294)])
        refine Own.Sit.caload hG S518 hx V519 ⟨by decide, by decide⟩ rfl rfl rfl (hb hby at_210) ?_
        show G T518 (mkF m 211 #[.val (.long q0), .second, iv q1, iv q2, iv (q2 &&& (3 : Int32)), iv (((q2.toUInt32 >>> ((2 : Int32) &&& 31).toUInt32).toInt32) ^^^ (-1 : Int32)), rv x294, iv 6, rv x518, .val .null, .unset] [(.int c301)])
        refine hG.st (fun t q => XS.bipush S518.here hx rfl (hb hby at_211) q) ?_
        show G T518 (mkF m 213 #[.val (.long q0), .second, iv q1, iv q2, iv (q2 &&& (3 : Int32)), iv (((q2.toUInt32 >>> ((2 : Int32) &&& 31).toUInt32).toInt32) ^^^ (-1 : Int32)), rv x294, iv 6, rv x518, .val .null, .unset] [(.int 108), (.int c301)])
        by_cases hc213 : c301 = (108 : Int32)
        ·
          refine hG.st (fun t q => XS.icmpNo S518.here hx rfl (hb hby at_213) rfl (teq hc213).2 (XS.aload S518.here hx rfl (hb hby at_216) rfl rfl (XS.iconst S518.here hx rfl (hb hby at_218) q))) ?_
          show G T518 (mkF m 219 #[.val (.long q0), .second, iv q1, iv q2, iv (q2 &&& (3 : Int32)), iv (((q2.toUInt32 >>> ((2 : Int32) &&& 31).toUInt32).toInt32) ^^^ (-1 : Int32)), rv x294, iv 6, rv x518, .val .null, .unset] [(.int 3), (.ref x294)])
          refine Own.Sit.caload hG S518 hx V519 ⟨by decide, by decide⟩ rfl rfl rfl (hb hby at_219) ?_
          show G T518 (mkF m 220 #[.val (.long q0), .second, iv q1, iv q2, iv (q2 &&& (3 : Int32)), iv (((q2.toUInt32 >>> ((2 : Int32) &&& 31).toUInt32).toInt32) ^^^ (-1 : Int32)), rv x294, iv 6, rv x518, .val .null, .unset] [(.int c304)])
          refine hG.st (fun t q => XS.bipush S518.here hx rfl (hb hby at_220) q) ?_
          show G T518 (mkF m 222 #[.val (.long q0), .second, iv q1, iv q2, iv (q2 &&& (3 : Int32)), iv (((q2.toUInt32 >>> ((2 : Int32) &&& 31).toUInt32).toInt32) ^^^ (-1 : Int32)), rv x294, iv 6, rv x518, .val .null, .unset] [(.int 101), (.int c304)])
          by_cases hc222 : c304 = (101 : Int32)
          ·
            refine hG.st (fun t q => XS.icmpNo S518.here hx rfl (hb hby at_222) rfl (teq hc222).2 (XS.aload S518.here hx rfl (hb hby at_225) rfl rfl (XS.iconst S518.here hx rfl (hb hby at_227) q))) ?_
            show G T518 (mkF m 228 #[.val (.long q0), .second, iv q1, iv q2, iv (q2 &&& (3 : Int32)), iv (((q2.toUInt32 >>> ((2 : Int32) &&& 31).toUInt32).toInt32) ^^^ (-1 : Int32)), rv x294, iv 6, rv x518, .val .null, .unset] [(.int 4), (.ref x294)])
            refine Own.Sit.caload hG S518 hx V519 ⟨by decide, by decide⟩ rfl rfl rfl (hb hby at_228) ?_
            show G T518 (mkF m 229 #[.val (.long q0), .second, iv q1, iv q2, iv (q2 &&& (3 : Int32)), iv (((q2.toUInt32 >>> ((2 : Int32) &&& 31).toUInt32).toInt32) ^^^ (-1 : Int32)), rv x294, iv 6, rv x518, .val .null, .unset] [(.int c307)])
            refine hG.st (fun t q => XS.bipush S518.here hx rfl (hb hby at_229) q) ?_
            show G T518 (mkF m 231 #[.val (.long q0), .second, iv q1, iv q2, iv (q2 &&& (3 : Int32)), iv (((q2.toUInt32 >>> ((2 : Int32) &&& 31).toUInt32).toInt32) ^^^ (-1 : Int32)), rv x294, iv 6, rv x518, .val .null, .unset] [(.int 116), (.int c307)])
            by_cases hc231 : c307 = (116 : Int32)
            ·
              refine hG.st (fun t q => XS.icmpNo S518.here hx rfl (hb hby at_231) rfl (teq hc231).2 (XS.aload S518.here hx rfl (hb hby at_234) rfl rfl (XS.iconst S518.here hx rfl (hb hby at_236) q))) ?_
              show G T518 (mkF m 237 #[.val (.long q0), .second, iv q1, iv q2, iv (q2 &&& (3 : Int32)), iv (((q2.toUInt32 >>> ((2 : Int32) &&& 31).toUInt32).toInt32) ^^^ (-1 : Int32)), rv x294, iv 6, rv x518, .val .null, .unset] [(.int 5), (.ref x294)])
              refine Own.Sit.caload hG S518 hx V519 ⟨by decide, by decide⟩ rfl rfl rfl (hb hby at_237) ?_
              show G T518 (mkF m 238 #[.val (.long q0), .second, iv q1, iv q2, iv (q2 &&& (3 : Int32)), iv (((q2.toUInt32 >>> ((2 : Int32) &&& 31).toUInt32).toInt32) ^^^ (-1 : Int32)), rv x294, iv 6, rv x518, .val .null, .unset] [(.int c310)])
              refine hG.st (fun t q => XS.bipush S518.here hx rfl (hb hby at_238) q) ?_
              show G T518 (mkF m 240 #[.val (.long q0), .second, iv q1, iv q2, iv (q2 &&& (3 : Int32)), iv (((q2.toUInt32 >>> ((2 : Int32) &&& 31).toUInt32).toInt32) ^^^ (-1 : Int32)), rv x294, iv 6, rv x518, .val .null, .unset] [(.int 101), (.int c310)])
              by_cases hc240 : c310 = (101 : Int32)
              ·
                refine hG.st (fun t q => XS.icmpNo S518.here hx rfl (hb hby at_240) rfl (teq hc240).2 q) ?_
                show G T518 (mkF m 243 #[.val (.long q0), .second, iv q1, iv q2, iv (q2 &&& (3 : Int32)), iv (((q2.toUInt32 >>> ((2 : Int32) &&& 31).toUInt32).toInt32) ^^^ (-1 : Int32)), rv x294, iv 6, rv x518, .val .null, .unset] [])
                refine Own.Sit.getS hG S518 hx (host := "") (Or.inl (hW 128 _ rfl)) Via.refl (Sn.ext S518.old) rfl (hb hby at_243) (fun T520 S520 => ?_)
                show G T520 (mkF m 246 #[.val (.long q0), .second, iv q1, iv q2, iv (q2 &&& (3 : Int32)), iv (((q2.toUInt32 >>> ((2 : Int32) &&& 31).toUInt32).toInt32) ^^^ (-1 : Int32)), rv x294, iv 6, rv x518, .val .null, .unset] [(.ref kd)])
                refine hG.st (fun t q => XS.astore S520.here hx rfl (hb hby at_246) rfl rfl (l' := #[.val (.long q0), .second, iv q1, iv q2, iv (q2 &&& (3 : Int32)), iv (((q2.toUInt32 >>> ((2 : Int32) &&& 31).toUInt32).toInt32) ^^^ (-1 : Int32)), rv x294, iv 6, rv x518, rv kd, .unset]) rfl (XS.aload S520.here hx rfl (hb hby at_248) rfl rfl q)) ?_
                show G T520 (mkF m 250 #[.val (.long q0), .second, iv q1, iv q2, iv (q2 &&& (3 : Int32)), iv (((q2.toUInt32 >>> ((2 : Int32) &&& 31).toUInt32).toInt32) ^^^ (-1 : Int32)), rv x294, iv 6, rv x518, rv kd, .unset] [(.ref x518)])
                refine Own.Sit.callS hG S520 hx hEL (as := [(.ref x518)]) (hW 41 _ rfl) (hW 42 _ rfl) (hW 43 _ rfl) (hW 44 _ rfl) (by decide) (own_named l Z a0 H x518 N y518 ([c295, c298, c301, c304, c307, c310] : List Int32) h518 S520.old St518) own_pdf4991c rfl rfl (hz _ rfl) (rest := []) rfl (W := 0) (by show 2 * 0 + _ ≤ _; exact Nat.le_of_eq rfl) (hb hby at_250) (by decide) (by decide) (by decide) (by decide) (fun v521 vm521 T521 h521 S521 C521 q521 => ?_)
                obtain ⟨K521, o521, rfl, E521, qq521⟩ := q521
                have J521 : Own.Stp Z consts_1 vm518 h518 vm521 h521 [] := ⟨K521, C521⟩
                rcases qq521 with ⟨qa521, F521⟩ | ⟨qa521, F521⟩ | ⟨qa521, F521⟩
                ·
                  simp at qa521
                ·
                  show G T521 (mkF m 253 #[.val (.long q0), .second, iv q1, iv q2, iv (q2 &&& (3 : Int32)), iv (((q2.toUInt32 >>> ((2 : Int32) &&& 31).toUInt32).toInt32) ^^^ (-1 : Int32)), rv x294, iv 6, rv x518, rv kd, .unset] [(.ref o521)])
                  refine hG.st (fun t q => XS.aconstNull S521.here hx rfl (hb hby at_253) q) ?_
                  show G T521 (mkF m 254 #[.val (.long q0), .second, iv q1, iv q2, iv (q2 &&& (3 : Int32)), iv (((q2.toUInt32 >>> ((2 : Int32) &&& 31).toUInt32).toInt32) ^^^ (-1 : Int32)), rv x294, iv 6, rv x518, rv kd, .unset] [.null, (.ref o521)])
                  refine Own.Sit.callV hG S521 hx hEL (as := [.null]) (hW 79 _ rfl) (hW 80 _ rfl) (hW 82 _ rfl) (hW 81 _ rfl) (hW 76 _ rfl) (hW 83 _ rfl) (by decide) E521 (own_orR l Z a0 H o521 kd h521 S521.old E521 F521) own_pdc2743d rfl rfl (hz _ rfl) (rest := []) rfl (W := 0) (by show 2 * 0 + _ ≤ _; exact Nat.le_of_eq rfl) (hb hby at_254) (by decide) (by decide) (by decide) (by decide) (fun v522 vm522 T522 h522 S522 C522 q522 => ?_)
                  obtain ⟨K522, rfl⟩ := q522
                  have J522 : Own.Stp Z consts_1 vm521 h521 vm522 h522 [] := ⟨K522, C522⟩
                  show G T522 (mkF m 257 #[.val (.long q0), .second, iv q1, iv q2, iv (q2 &&& (3 : Int32)), iv (((q2.toUInt32 >>> ((2 : Int32) &&& 31).toUInt32).toInt32) ^^^ (-1 : Int32)), rv x294, iv 6, rv x518, rv kd, .unset] [(.ref kd)])
                  have E523 := Ekn.ext S522.old
                  refine Own.Sit.castY hG S522 hx (hW 126 _ rfl) (Ins.self E523) rfl rfl (hb hby at_257) (fun T524 S524 => ?_)
                  show G T524 (mkF m 260 #[.val (.long q0), .second, iv q1, iv q2, iv (q2 &&& (3 : Int32)), iv (((q2.toUInt32 >>> ((2 : Int32) &&& 31).toUInt32).toInt32) ^^^ (-1 : Int32)), rv x294, iv 6, rv x518, rv kd, .unset] [(.ref kd)])
                  refine hG.st (fun t q => XS.astore S524.here hx rfl (hb hby at_260) rfl rfl (l' := #[.val (.long q0), .second, iv q1, iv q2, iv (q2 &&& (3 : Int32)), iv (((q2.toUInt32 >>> ((2 : Int32) &&& 31).toUInt32).toInt32) ^^^ (-1 : Int32)), rv x294, iv 6, rv x518, rv kd, rv kd]) rfl (XS.aload S524.here hx rfl (hb hby at_262) rfl rfl (XS.aload S524.here hx rfl (hb hby at_264) rfl rfl q))) ?_
                  show G T524 (mkF m 266 #[.val (.long q0), .second, iv q1, iv q2, iv (q2 &&& (3 : Int32)), iv (((q2.toUInt32 >>> ((2 : Int32) &&& 31).toUInt32).toInt32) ^^^ (-1 : Int32)), rv x294, iv 6, rv x518, rv kd, rv kd] [(.ref kd), (.ref kd)])
                  refine Own.Sit.acmp hG S524 hx (g := (mkF m 266 #[.val (.long q0), .second, iv q1, iv q2, iv (q2 &&& (3 : Int32)), iv (((q2.toUInt32 >>> ((2 : Int32) &&& 31).toUInt32).toInt32) ^^^ (-1 : Int32)), rv x294, iv 6, rv x518, rv kd, rv kd] [(.ref kd), (.ref kd)])) rfl rfl rfl (pc0 := 266) (pc' := 269) (same := true) rfl (hb hby at_266) rfl (decide_eq_true rfl) (by decide) (by decide) ?_
                  show G T524 (mkF m 269 #[.val (.long q0), .second, iv q1, iv q2, iv (q2 &&& (3 : Int32)), iv (((q2.toUInt32 >>> ((2 : Int32) &&& 31).toUInt32).toInt32) ^^^ (-1 : Int32)), rv x294, iv 6, rv x518, rv kd, rv kd] [])
                  refine hG.st (fun t q => XS.iconst S524.here hx rfl (hb hby at_269) (XS.goto S524.here hx rfl (pc0 := 270) (pc' := 274) rfl (hb hby at_270) (by decide) (by decide) q)) ?_
                  show G T524 (mkF m 274 #[.val (.long q0), .second, iv q1, iv q2, iv (q2 &&& (3 : Int32)), iv (((q2.toUInt32 >>> ((2 : Int32) &&& 31).toUInt32).toInt32) ^^^ (-1 : Int32)), rv x294, iv 6, rv x518, rv kd, rv kd] [(.int 1)])
                  have J525 : Own.Stp Z consts_1 vm0 h0 vm295 h295 [] := Own.Stp.trans J294 J295 (all0) all0
                  have J526 : Own.Stp Z consts_1 vm0 h0 vm295 h297 [] := Own.Stp.trans J525 J297 (all0) (allS (Or.inr (Nat.le_of_eq g_x294.symm)) all0)
                  have J527 : Own.Stp Z consts_1 vm0 h0 vm298 h298 [] := Own.Stp.trans J526 J298 (all0) all0
                  have J528 : Own.Stp Z consts_1 vm0 h0 vm298 h300 [] := Own.Stp.trans J527 J300 (all0) (allS (Or.inr (Nat.le_of_eq g_x294.symm)) all0)
                  have J529 : Own.Stp Z consts_1 vm0 h0 vm301 h301 [] := Own.Stp.trans J528 J301 (all0) all0
                  have J530 : Own.Stp Z consts_1 vm0 h0 vm301 h303 [] := Own.Stp.trans J529 J303 (all0) (allS (Or.inr (Nat.le_of_eq g_x294.symm)) all0)
                  have J531 : Own.Stp Z consts_1 vm0 h0 vm304 h304 [] := Own.Stp.trans J530 J304 (all0) all0
                  have J532 : Own.Stp Z consts_1 vm0 h0 vm304 h306 [] := Own.Stp.trans J531 J306 (all0) (allS (Or.inr (Nat.le_of_eq g_x294.symm)) all0)
                  have J533 : Own.Stp Z consts_1 vm0 h0 vm307 h307 [] := Own.Stp.trans J532 J307 (all0) all0
                  have J534 : Own.Stp Z consts_1 vm0 h0 vm307 h309 [] := Own.Stp.trans J533 J309 (all0) (allS (Or.inr (Nat.le_of_eq g_x294.symm)) all0)
                  have J535 : Own.Stp Z consts_1 vm0 h0 vm310 h310 [] := Own.Stp.trans J534 J310 (all0) all0
                  have J536 : Own.Stp Z consts_1 vm0 h0 vm310 h312 [] := Own.Stp.trans J535 J312 (all0) (allS (Or.inr (Nat.le_of_eq g_x294.symm)) all0)
                  have J537 : Own.Stp Z consts_1 vm0 h0 vm313 h313 [] := Own.Stp.trans J536 J313 (all0) all0
                  have J538 : Own.Stp Z consts_1 vm0 h0 vm313 h315 [] := Own.Stp.trans J537 J315 (all0) (allS (Or.inr (Nat.le_of_eq g_x294.symm)) all0)
                  have J539 : Own.Stp Z consts_1 vm0 h0 vm316 h316 [] := Own.Stp.trans J538 J316 (all0) all0
                  have J540 : Own.Stp Z consts_1 vm0 h0 vm316 h318 [] := Own.Stp.trans J539 J318 (all0) (allS (Or.inr (Nat.le_of_eq g_x294.symm)) all0)
                  have J541 : Own.Stp Z consts_1 vm0 h0 vm518 h518 [] := Own.Stp.trans J540 J518 (all0) all0
                  have J542 : Own.Stp Z consts_1 vm0 h0 vm521 h521 [] := Own.Stp.trans J541 J521 (all0) all0
                  have J543 : Own.Stp Z consts_1 vm0 h0 vm522 h522 [] := Own.Stp.trans J542 J522 (all0) all0
                  exact Own.Sit.retN hR S524 hx (t := .boolean) hret (by simp) (hb hby at_274) (by decide) (by decide) ⟨J543.1, rfl⟩
                ·
                  exact absurd (by rw [hc195, hc204, hc213, hc222, hc231, hc240]) qa521.2
              ·
                refine hG.st (fun t q => XS.icmpYes S518.here hx rfl (pc0 := 240) (pc' := 248) rfl (hb hby at_240) rfl (feq hc240).2 (by decide) (by decide) (XS.aload S518.here hx rfl (hb hby at_248) rfl rfl q)) ?_
                show G T518 (mkF m 250 #[.val (.long q0), .second, iv q1, iv q2, iv (q2 &&& (3 : Int32)), iv (((q2.toUInt32 >>> ((2 : Int32) &&& 31).toUInt32).toInt32) ^^^ (-1 : Int32)), rv x294, iv 6, rv x518, .val .null, .unset] [(.ref x518)])
                refine Own.Sit.callS hG S518 hx hEL (as := [(.ref x518)]) (hW 41 _ rfl) (hW 42 _ rfl) (hW 43 _ rfl) (hW 44 _ rfl) (by decide) (own_named l Z a0 H x518 N y518 ([c295, c298, c301, c304, c307, c310] : List Int32) h518 S518.old St518) own_pdf4991c rfl rfl (hz _ rfl) (rest := []) rfl (W := 0) (by show 2 * 0 + _ ≤ _; exact Nat.le_of_eq rfl) (hb hby at_250) (by decide) (by decide) (by decide) (by decide) (fun v544 vm544 T544 h544 S544 C544 q544 => ?_)
                obtain ⟨K544, o544, rfl, E544, qq544⟩ := q544
                have J544 : Own.Stp Z consts_1 vm518 h518 vm544 h544 [] := ⟨K544, C544⟩
                rcases qq544 with ⟨qa544, F544⟩ | ⟨qa544, F544⟩ | ⟨qa544, F544⟩
                ·
                  simp at qa544
                ·
                  simp only [List.cons.injEq, and_true] at qa544
                  exact absurd qa544.2.2.2.2.2.symm hc240
                ·
                  show G T544 (mkF m 253 #[.val (.long q0), .second, iv q1, iv q2, iv (q2 &&& (3 : Int32)), iv (((q2.toUInt32 >>> ((2 : Int32) &&& 31).toUInt32).toInt32) ^^^ (-1 : Int32)), rv x294, iv 6, rv x518, .val .null, .unset] [(.ref o544)])
                  refine hG.st (fun t q => XS.aconstNull S544.here hx rfl (hb hby at_253) q) ?_
                  show G T544 (mkF m 254 #[.val (.long q0), .second, iv q1, iv q2, iv (q2 &&& (3 : Int32)), iv (((q2.toUInt32 >>> ((2 : Int32) &&& 31).toUInt32).toInt32) ^^^ (-1 : Int32)), rv x294, iv 6, rv x518, .val .null, .unset] [.null, (.ref o544)])
                  refine Own.Sit.callV hG S544 hx hEL (as := [.null]) (hW 79 _ rfl) (hW 80 _ rfl) (hW 82 _ rfl) (hW 81 _ rfl) (hW 76 _ rfl) (hW 83 _ rfl) (by decide) E544 (own_orN l Z a0 H o544 h544 S544.old E544 F544) own_pdc2743d rfl rfl (hz _ rfl) (rest := []) rfl (W := 0) (by show 2 * 0 + _ ≤ _; exact Nat.le_of_eq rfl) (hb hby at_254) (by decide) (by decide) (by decide) (by decide) (fun v545 vm545 T545 h545 S545 C545 q545 => ?_)
                  obtain ⟨K545, rfl⟩ := q545
                  have J545 : Own.Stp Z consts_1 vm544 h544 vm545 h545 [] := ⟨K545, C545⟩
                  show G T545 (mkF m 257 #[.val (.long q0), .second, iv q1, iv q2, iv (q2 &&& (3 : Int32)), iv (((q2.toUInt32 >>> ((2 : Int32) &&& 31).toUInt32).toInt32) ^^^ (-1 : Int32)), rv x294, iv 6, rv x518, .val .null, .unset] [.null])
                  refine Own.Sit.castNull hG S545 hx rfl rfl (hb hby at_257) ?_
                  show G T545 (mkF m 260 #[.val (.long q0), .second, iv q1, iv q2, iv (q2 &&& (3 : Int32)), iv (((q2.toUInt32 >>> ((2 : Int32) &&& 31).toUInt32).toInt32) ^^^ (-1 : Int32)), rv x294, iv 6, rv x518, .val .null, .unset] [.null])
                  refine hG.st (fun t q => XS.astore S545.here hx rfl (hb hby at_260) rfl rfl (l' := #[.val (.long q0), .second, iv q1, iv q2, iv (q2 &&& (3 : Int32)), iv (((q2.toUInt32 >>> ((2 : Int32) &&& 31).toUInt32).toInt32) ^^^ (-1 : Int32)), rv x294, iv 6, rv x518, .val .null, .val .null]) rfl (XS.aload S545.here hx rfl (hb hby at_262) rfl rfl (XS.aload S545.here hx rfl (hb hby at_264) rfl rfl q))) ?_
                  show G T545 (mkF m 266 #[.val (.long q0), .second, iv q1, iv q2, iv (q2 &&& (3 : Int32)), iv (((q2.toUInt32 >>> ((2 : Int32) &&& 31).toUInt32).toInt32) ^^^ (-1 : Int32)), rv x294, iv 6, rv x518, .val .null, .val .null] [.null, .null])
                  refine Own.Sit.acmp hG S545 hx (g := (mkF m 266 #[.val (.long q0), .second, iv q1, iv q2, iv (q2 &&& (3 : Int32)), iv (((q2.toUInt32 >>> ((2 : Int32) &&& 31).toUInt32).toInt32) ^^^ (-1 : Int32)), rv x294, iv 6, rv x518, .val .null, .val .null] [.null, .null])) rfl rfl rfl (pc0 := 266) (pc' := 269) (same := true) rfl (hb hby at_266) rfl (decide_eq_true rfl) (by decide) (by decide) ?_
                  show G T545 (mkF m 269 #[.val (.long q0), .second, iv q1, iv q2, iv (q2 &&& (3 : Int32)), iv (((q2.toUInt32 >>> ((2 : Int32) &&& 31).toUInt32).toInt32) ^^^ (-1 : Int32)), rv x294, iv 6, rv x518, .val .null, .val .null] [])
                  refine hG.st (fun t q => XS.iconst S545.here hx rfl (hb hby at_269) (XS.goto S545.here hx rfl (pc0 := 270) (pc' := 274) rfl (hb hby at_270) (by decide) (by decide) q)) ?_
                  show G T545 (mkF m 274 #[.val (.long q0), .second, iv q1, iv q2, iv (q2 &&& (3 : Int32)), iv (((q2.toUInt32 >>> ((2 : Int32) &&& 31).toUInt32).toInt32) ^^^ (-1 : Int32)), rv x294, iv 6, rv x518, .val .null, .val .null] [(.int 1)])
                  have J546 : Own.Stp Z consts_1 vm0 h0 vm295 h295 [] := Own.Stp.trans J294 J295 (all0) all0
                  have J547 : Own.Stp Z consts_1 vm0 h0 vm295 h297 [] := Own.Stp.trans J546 J297 (all0) (allS (Or.inr (Nat.le_of_eq g_x294.symm)) all0)
                  have J548 : Own.Stp Z consts_1 vm0 h0 vm298 h298 [] := Own.Stp.trans J547 J298 (all0) all0
                  have J549 : Own.Stp Z consts_1 vm0 h0 vm298 h300 [] := Own.Stp.trans J548 J300 (all0) (allS (Or.inr (Nat.le_of_eq g_x294.symm)) all0)
                  have J550 : Own.Stp Z consts_1 vm0 h0 vm301 h301 [] := Own.Stp.trans J549 J301 (all0) all0
                  have J551 : Own.Stp Z consts_1 vm0 h0 vm301 h303 [] := Own.Stp.trans J550 J303 (all0) (allS (Or.inr (Nat.le_of_eq g_x294.symm)) all0)
                  have J552 : Own.Stp Z consts_1 vm0 h0 vm304 h304 [] := Own.Stp.trans J551 J304 (all0) all0
                  have J553 : Own.Stp Z consts_1 vm0 h0 vm304 h306 [] := Own.Stp.trans J552 J306 (all0) (allS (Or.inr (Nat.le_of_eq g_x294.symm)) all0)
                  have J554 : Own.Stp Z consts_1 vm0 h0 vm307 h307 [] := Own.Stp.trans J553 J307 (all0) all0
                  have J555 : Own.Stp Z consts_1 vm0 h0 vm307 h309 [] := Own.Stp.trans J554 J309 (all0) (allS (Or.inr (Nat.le_of_eq g_x294.symm)) all0)
                  have J556 : Own.Stp Z consts_1 vm0 h0 vm310 h310 [] := Own.Stp.trans J555 J310 (all0) all0
                  have J557 : Own.Stp Z consts_1 vm0 h0 vm310 h312 [] := Own.Stp.trans J556 J312 (all0) (allS (Or.inr (Nat.le_of_eq g_x294.symm)) all0)
                  have J558 : Own.Stp Z consts_1 vm0 h0 vm313 h313 [] := Own.Stp.trans J557 J313 (all0) all0
                  have J559 : Own.Stp Z consts_1 vm0 h0 vm313 h315 [] := Own.Stp.trans J558 J315 (all0) (allS (Or.inr (Nat.le_of_eq g_x294.symm)) all0)
                  have J560 : Own.Stp Z consts_1 vm0 h0 vm316 h316 [] := Own.Stp.trans J559 J316 (all0) all0
                  have J561 : Own.Stp Z consts_1 vm0 h0 vm316 h318 [] := Own.Stp.trans J560 J318 (all0) (allS (Or.inr (Nat.le_of_eq g_x294.symm)) all0)
                  have J562 : Own.Stp Z consts_1 vm0 h0 vm518 h518 [] := Own.Stp.trans J561 J518 (all0) all0
                  have J563 : Own.Stp Z consts_1 vm0 h0 vm544 h544 [] := Own.Stp.trans J562 J544 (all0) all0
                  have J564 : Own.Stp Z consts_1 vm0 h0 vm545 h545 [] := Own.Stp.trans J563 J545 (all0) all0
                  exact Own.Sit.retN hR S545 hx (t := .boolean) hret (by simp) (hb hby at_274) (by decide) (by decide) ⟨J564.1, rfl⟩
            ·
              refine hG.st (fun t q => XS.icmpYes S518.here hx rfl (pc0 := 231) (pc' := 248) rfl (hb hby at_231) rfl (feq hc231).2 (by decide) (by decide) (XS.aload S518.here hx rfl (hb hby at_248) rfl rfl q)) ?_
              show G T518 (mkF m 250 #[.val (.long q0), .second, iv q1, iv q2, iv (q2 &&& (3 : Int32)), iv (((q2.toUInt32 >>> ((2 : Int32) &&& 31).toUInt32).toInt32) ^^^ (-1 : Int32)), rv x294, iv 6, rv x518, .val .null, .unset] [(.ref x518)])
              refine Own.Sit.callS hG S518 hx hEL (as := [(.ref x518)]) (hW 41 _ rfl) (hW 42 _ rfl) (hW 43 _ rfl) (hW 44 _ rfl) (by decide) (own_named l Z a0 H x518 N y518 ([c295, c298, c301, c304, c307, c310] : List Int32) h518 S518.old St518) own_pdf4991c rfl rfl (hz _ rfl) (rest := []) rfl (W := 0) (by show 2 * 0 + _ ≤ _; exact Nat.le_of_eq rfl) (hb hby at_250) (by decide) (by decide) (by decide) (by decide) (fun v565 vm565 T565 h565 S565 C565 q565 => ?_)
              obtain ⟨K565, o565, rfl, E565, qq565⟩ := q565
              have J565 : Own.Stp Z consts_1 vm518 h518 vm565 h565 [] := ⟨K565, C565⟩
              rcases qq565 with ⟨qa565, F565⟩ | ⟨qa565, F565⟩ | ⟨qa565, F565⟩
              ·
                simp at qa565
              ·
                simp only [List.cons.injEq, and_true] at qa565
                exact absurd qa565.2.2.2.2.1.symm hc231
              ·
                show G T565 (mkF m 253 #[.val (.long q0), .second, iv q1, iv q2, iv (q2 &&& (3 : Int32)), iv (((q2.toUInt32 >>> ((2 : Int32) &&& 31).toUInt32).toInt32) ^^^ (-1 : Int32)), rv x294, iv 6, rv x518, .val .null, .unset] [(.ref o565)])
                refine hG.st (fun t q => XS.aconstNull S565.here hx rfl (hb hby at_253) q) ?_
                show G T565 (mkF m 254 #[.val (.long q0), .second, iv q1, iv q2, iv (q2 &&& (3 : Int32)), iv (((q2.toUInt32 >>> ((2 : Int32) &&& 31).toUInt32).toInt32) ^^^ (-1 : Int32)), rv x294, iv 6, rv x518, .val .null, .unset] [.null, (.ref o565)])
                refine Own.Sit.callV hG S565 hx hEL (as := [.null]) (hW 79 _ rfl) (hW 80 _ rfl) (hW 82 _ rfl) (hW 81 _ rfl) (hW 76 _ rfl) (hW 83 _ rfl) (by decide) E565 (own_orN l Z a0 H o565 h565 S565.old E565 F565) own_pdc2743d rfl rfl (hz _ rfl) (rest := []) rfl (W := 0) (by show 2 * 0 + _ ≤ _; exact Nat.le_of_eq rfl) (hb hby at_254) (by decide) (by decide) (by decide) (by decide) (fun v566 vm566 T566 h566 S566 C566 q566 => ?_)
                obtain ⟨K566, rfl⟩ := q566
                have J566 : Own.Stp Z consts_1 vm565 h565 vm566 h566 [] := ⟨K566, C566⟩
                show G T566 (mkF m 257 #[.val (.long q0), .second, iv q1, iv q2, iv (q2 &&& (3 : Int32)), iv (((q2.toUInt32 >>> ((2 : Int32) &&& 31).toUInt32).toInt32) ^^^ (-1 : Int32)), rv x294, iv 6, rv x518, .val .null, .unset] [.null])
                refine Own.Sit.castNull hG S566 hx rfl rfl (hb hby at_257) ?_
                show G T566 (mkF m 260 #[.val (.long q0), .second, iv q1, iv q2, iv (q2 &&& (3 : Int32)), iv (((q2.toUInt32 >>> ((2 : Int32) &&& 31).toUInt32).toInt32) ^^^ (-1 : Int32)), rv x294, iv 6, rv x518, .val .null, .unset] [.null])
                refine hG.st (fun t q => XS.astore S566.here hx rfl (hb hby at_260) rfl rfl (l' := #[.val (.long q0), .second, iv q1, iv q2, iv (q2 &&& (3 : Int32)), iv (((q2.toUInt32 >>> ((2 : Int32) &&& 31).toUInt32).toInt32) ^^^ (-1 : Int32)), rv x294, iv 6, rv x518, .val .null, .val .null]) rfl (XS.aload S566.here hx rfl (hb hby at_262) rfl rfl (XS.aload S566.here hx rfl (hb hby at_264) rfl rfl q))) ?_
                show G T566 (mkF m 266 #[.val (.long q0), .second, iv q1, iv q2, iv (q2 &&& (3 : Int32)), iv (((q2.toUInt32 >>> ((2 : Int32) &&& 31).toUInt32).toInt32) ^^^ (-1 : Int32)), rv x294, iv 6, rv x518, .val .null, .val .null] [.null, .null])
                refine Own.Sit.acmp hG S566 hx (g := (mkF m 266 #[.val (.long q0), .second, iv q1, iv q2, iv (q2 &&& (3 : Int32)), iv (((q2.toUInt32 >>> ((2 : Int32) &&& 31).toUInt32).toInt32) ^^^ (-1 : Int32)), rv x294, iv 6, rv x518, .val .null, .val .null] [.null, .null])) rfl rfl rfl (pc0 := 266) (pc' := 269) (same := true) rfl (hb hby at_266) rfl (decide_eq_true rfl) (by decide) (by decide) ?_
                show G T566 (mkF m 269 #[.val (.long q0), .second, iv q1, iv q2, iv (q2 &&& (3 : Int32)), iv (((q2.toUInt32 >>> ((2 : Int32) &&& 31).toUInt32).toInt32) ^^^ (-1 : Int32)), rv x294, iv 6, rv x518, .val .null, .val .null] [])
                refine hG.st (fun t q => XS.iconst S566.here hx rfl (hb hby at_269) (XS.goto S566.here hx rfl (pc0 := 270) (pc' := 274) rfl (hb hby at_270) (by decide) (by decide) q)) ?_
                show G T566 (mkF m 274 #[.val (.long q0), .second, iv q1, iv q2, iv (q2 &&& (3 : Int32)), iv (((q2.toUInt32 >>> ((2 : Int32) &&& 31).toUInt32).toInt32) ^^^ (-1 : Int32)), rv x294, iv 6, rv x518, .val .null, .val .null] [(.int 1)])
                have J567 : Own.Stp Z consts_1 vm0 h0 vm295 h295 [] := Own.Stp.trans J294 J295 (all0) all0
                have J568 : Own.Stp Z consts_1 vm0 h0 vm295 h297 [] := Own.Stp.trans J567 J297 (all0) (allS (Or.inr (Nat.le_of_eq g_x294.symm)) all0)
                have J569 : Own.Stp Z consts_1 vm0 h0 vm298 h298 [] := Own.Stp.trans J568 J298 (all0) all0
                have J570 : Own.Stp Z consts_1 vm0 h0 vm298 h300 [] := Own.Stp.trans J569 J300 (all0) (allS (Or.inr (Nat.le_of_eq g_x294.symm)) all0)
                have J571 : Own.Stp Z consts_1 vm0 h0 vm301 h301 [] := Own.Stp.trans J570 J301 (all0) all0
                have J572 : Own.Stp Z consts_1 vm0 h0 vm301 h303 [] := Own.Stp.trans J571 J303 (all0) (allS (Or.inr (Nat.le_of_eq g_x294.symm)) all0)
                have J573 : Own.Stp Z consts_1 vm0 h0 vm304 h304 [] := Own.Stp.trans J572 J304 (all0) all0
                have J574 : Own.Stp Z consts_1 vm0 h0 vm304 h306 [] := Own.Stp.trans J573 J306 (all0) (allS (Or.inr (Nat.le_of_eq g_x294.symm)) all0)
                have J575 : Own.Stp Z consts_1 vm0 h0 vm307 h307 [] := Own.Stp.trans J574 J307 (all0) all0
                have J576 : Own.Stp Z consts_1 vm0 h0 vm307 h309 [] := Own.Stp.trans J575 J309 (all0) (allS (Or.inr (Nat.le_of_eq g_x294.symm)) all0)
                have J577 : Own.Stp Z consts_1 vm0 h0 vm310 h310 [] := Own.Stp.trans J576 J310 (all0) all0
                have J578 : Own.Stp Z consts_1 vm0 h0 vm310 h312 [] := Own.Stp.trans J577 J312 (all0) (allS (Or.inr (Nat.le_of_eq g_x294.symm)) all0)
                have J579 : Own.Stp Z consts_1 vm0 h0 vm313 h313 [] := Own.Stp.trans J578 J313 (all0) all0
                have J580 : Own.Stp Z consts_1 vm0 h0 vm313 h315 [] := Own.Stp.trans J579 J315 (all0) (allS (Or.inr (Nat.le_of_eq g_x294.symm)) all0)
                have J581 : Own.Stp Z consts_1 vm0 h0 vm316 h316 [] := Own.Stp.trans J580 J316 (all0) all0
                have J582 : Own.Stp Z consts_1 vm0 h0 vm316 h318 [] := Own.Stp.trans J581 J318 (all0) (allS (Or.inr (Nat.le_of_eq g_x294.symm)) all0)
                have J583 : Own.Stp Z consts_1 vm0 h0 vm518 h518 [] := Own.Stp.trans J582 J518 (all0) all0
                have J584 : Own.Stp Z consts_1 vm0 h0 vm565 h565 [] := Own.Stp.trans J583 J565 (all0) all0
                have J585 : Own.Stp Z consts_1 vm0 h0 vm566 h566 [] := Own.Stp.trans J584 J566 (all0) all0
                exact Own.Sit.retN hR S566 hx (t := .boolean) hret (by simp) (hb hby at_274) (by decide) (by decide) ⟨J585.1, rfl⟩
          ·
            refine hG.st (fun t q => XS.icmpYes S518.here hx rfl (pc0 := 222) (pc' := 248) rfl (hb hby at_222) rfl (feq hc222).2 (by decide) (by decide) (XS.aload S518.here hx rfl (hb hby at_248) rfl rfl q)) ?_
            show G T518 (mkF m 250 #[.val (.long q0), .second, iv q1, iv q2, iv (q2 &&& (3 : Int32)), iv (((q2.toUInt32 >>> ((2 : Int32) &&& 31).toUInt32).toInt32) ^^^ (-1 : Int32)), rv x294, iv 6, rv x518, .val .null, .unset] [(.ref x518)])
            refine Own.Sit.callS hG S518 hx hEL (as := [(.ref x518)]) (hW 41 _ rfl) (hW 42 _ rfl) (hW 43 _ rfl) (hW 44 _ rfl) (by decide) (own_named l Z a0 H x518 N y518 ([c295, c298, c301, c304, c307, c310] : List Int32) h518 S518.old St518) own_pdf4991c rfl rfl (hz _ rfl) (rest := []) rfl (W := 0) (by show 2 * 0 + _ ≤ _; exact Nat.le_of_eq rfl) (hb hby at_250) (by decide) (by decide) (by decide) (by decide) (fun v586 vm586 T586 h586 S586 C586 q586 => ?_)
            obtain ⟨K586, o586, rfl, E586, qq586⟩ := q586
            have J586 : Own.Stp Z consts_1 vm518 h518 vm586 h586 [] := ⟨K586, C586⟩
            rcases qq586 with ⟨qa586, F586⟩ | ⟨qa586, F586⟩ | ⟨qa586, F586⟩
            ·
              simp at qa586
            ·
              simp only [List.cons.injEq, and_true] at qa586
              exact absurd qa586.2.2.2.1.symm hc222
            ·
              show G T586 (mkF m 253 #[.val (.long q0), .second, iv q1, iv q2, iv (q2 &&& (3 : Int32)), iv (((q2.toUInt32 >>> ((2 : Int32) &&& 31).toUInt32).toInt32) ^^^ (-1 : Int32)), rv x294, iv 6, rv x518, .val .null, .unset] [(.ref o586)])
              refine hG.st (fun t q => XS.aconstNull S586.here hx rfl (hb hby at_253) q) ?_
              show G T586 (mkF m 254 #[.val (.long q0), .second, iv q1, iv q2, iv (q2 &&& (3 : Int32)), iv (((q2.toUInt32 >>> ((2 : Int32) &&& 31).toUInt32).toInt32) ^^^ (-1 : Int32)), rv x294, iv 6, rv x518, .val .null, .unset] [.null, (.ref o586)])
              refine Own.Sit.callV hG S586 hx hEL (as := [.null]) (hW 79 _ rfl) (hW 80 _ rfl) (hW 82 _ rfl) (hW 81 _ rfl) (hW 76 _ rfl) (hW 83 _ rfl) (by decide) E586 (own_orN l Z a0 H o586 h586 S586.old E586 F586) own_pdc2743d rfl rfl (hz _ rfl) (rest := []) rfl (W := 0) (by show 2 * 0 + _ ≤ _; exact Nat.le_of_eq rfl) (hb hby at_254) (by decide) (by decide) (by decide) (by decide) (fun v587 vm587 T587 h587 S587 C587 q587 => ?_)
              obtain ⟨K587, rfl⟩ := q587
              have J587 : Own.Stp Z consts_1 vm586 h586 vm587 h587 [] := ⟨K587, C587⟩
              show G T587 (mkF m 257 #[.val (.long q0), .second, iv q1, iv q2, iv (q2 &&& (3 : Int32)), iv (((q2.toUInt32 >>> ((2 : Int32) &&& 31).toUInt32).toInt32) ^^^ (-1 : Int32)), rv x294, iv 6, rv x518, .val .null, .unset] [.null])
              refine Own.Sit.castNull hG S587 hx rfl rfl (hb hby at_257) ?_
              show G T587 (mkF m 260 #[.val (.long q0), .second, iv q1, iv q2, iv (q2 &&& (3 : Int32)), iv (((q2.toUInt32 >>> ((2 : Int32) &&& 31).toUInt32).toInt32) ^^^ (-1 : Int32)), rv x294, iv 6, rv x518, .val .null, .unset] [.null])
              refine hG.st (fun t q => XS.astore S587.here hx rfl (hb hby at_260) rfl rfl (l' := #[.val (.long q0), .second, iv q1, iv q2, iv (q2 &&& (3 : Int32)), iv (((q2.toUInt32 >>> ((2 : Int32) &&& 31).toUInt32).toInt32) ^^^ (-1 : Int32)), rv x294, iv 6, rv x518, .val .null, .val .null]) rfl (XS.aload S587.here hx rfl (hb hby at_262) rfl rfl (XS.aload S587.here hx rfl (hb hby at_264) rfl rfl q))) ?_
              show G T587 (mkF m 266 #[.val (.long q0), .second, iv q1, iv q2, iv (q2 &&& (3 : Int32)), iv (((q2.toUInt32 >>> ((2 : Int32) &&& 31).toUInt32).toInt32) ^^^ (-1 : Int32)), rv x294, iv 6, rv x518, .val .null, .val .null] [.null, .null])
              refine Own.Sit.acmp hG S587 hx (g := (mkF m 266 #[.val (.long q0), .second, iv q1, iv q2, iv (q2 &&& (3 : Int32)), iv (((q2.toUInt32 >>> ((2 : Int32) &&& 31).toUInt32).toInt32) ^^^ (-1 : Int32)), rv x294, iv 6, rv x518, .val .null, .val .null] [.null, .null])) rfl rfl rfl (pc0 := 266) (pc' := 269) (same := true) rfl (hb hby at_266) rfl (decide_eq_true rfl) (by decide) (by decide) ?_
              show G T587 (mkF m 269 #[.val (.long q0), .second, iv q1, iv q2, iv (q2 &&& (3 : Int32)), iv (((q2.toUInt32 >>> ((2 : Int32) &&& 31).toUInt32).toInt32) ^^^ (-1 : Int32)), rv x294, iv 6, rv x518, .val .null, .val .null] [])
              refine hG.st (fun t q => XS.iconst S587.here hx rfl (hb hby at_269) (XS.goto S587.here hx rfl (pc0 := 270) (pc' := 274) rfl (hb hby at_270) (by decide) (by decide) q)) ?_
              show G T587 (mkF m 274 #[.val (.long q0), .second, iv q1, iv q2, iv (q2 &&& (3 : Int32)), iv (((q2.toUInt32 >>> ((2 : Int32) &&& 31).toUInt32).toInt32) ^^^ (-1 : Int32)), rv x294, iv 6, rv x518, .val .null, .val .null] [(.int 1)])
              have J588 : Own.Stp Z consts_1 vm0 h0 vm295 h295 [] := Own.Stp.trans J294 J295 (all0) all0
              have J589 : Own.Stp Z consts_1 vm0 h0 vm295 h297 [] := Own.Stp.trans J588 J297 (all0) (allS (Or.inr (Nat.le_of_eq g_x294.symm)) all0)
              have J590 : Own.Stp Z consts_1 vm0 h0 vm298 h298 [] := Own.Stp.trans J589 J298 (all0) all0
              have J591 : Own.Stp Z consts_1 vm0 h0 vm298 h300 [] := Own.Stp.trans J590 J300 (all0) (allS (Or.inr (Nat.le_of_eq g_x294.symm)) all0)
              have J592 : Own.Stp Z consts_1 vm0 h0 vm301 h301 [] := Own.Stp.trans J591 J301 (all0) all0
              have J593 : Own.Stp Z consts_1 vm0 h0 vm301 h303 [] := Own.Stp.trans J592 J303 (all0) (allS (Or.inr (Nat.le_of_eq g_x294.symm)) all0)
              have J594 : Own.Stp Z consts_1 vm0 h0 vm304 h304 [] := Own.Stp.trans J593 J304 (all0) all0
              have J595 : Own.Stp Z consts_1 vm0 h0 vm304 h306 [] := Own.Stp.trans J594 J306 (all0) (allS (Or.inr (Nat.le_of_eq g_x294.symm)) all0)
              have J596 : Own.Stp Z consts_1 vm0 h0 vm307 h307 [] := Own.Stp.trans J595 J307 (all0) all0
              have J597 : Own.Stp Z consts_1 vm0 h0 vm307 h309 [] := Own.Stp.trans J596 J309 (all0) (allS (Or.inr (Nat.le_of_eq g_x294.symm)) all0)
              have J598 : Own.Stp Z consts_1 vm0 h0 vm310 h310 [] := Own.Stp.trans J597 J310 (all0) all0
              have J599 : Own.Stp Z consts_1 vm0 h0 vm310 h312 [] := Own.Stp.trans J598 J312 (all0) (allS (Or.inr (Nat.le_of_eq g_x294.symm)) all0)
              have J600 : Own.Stp Z consts_1 vm0 h0 vm313 h313 [] := Own.Stp.trans J599 J313 (all0) all0
              have J601 : Own.Stp Z consts_1 vm0 h0 vm313 h315 [] := Own.Stp.trans J600 J315 (all0) (allS (Or.inr (Nat.le_of_eq g_x294.symm)) all0)
              have J602 : Own.Stp Z consts_1 vm0 h0 vm316 h316 [] := Own.Stp.trans J601 J316 (all0) all0
              have J603 : Own.Stp Z consts_1 vm0 h0 vm316 h318 [] := Own.Stp.trans J602 J318 (all0) (allS (Or.inr (Nat.le_of_eq g_x294.symm)) all0)
              have J604 : Own.Stp Z consts_1 vm0 h0 vm518 h518 [] := Own.Stp.trans J603 J518 (all0) all0
              have J605 : Own.Stp Z consts_1 vm0 h0 vm586 h586 [] := Own.Stp.trans J604 J586 (all0) all0
              have J606 : Own.Stp Z consts_1 vm0 h0 vm587 h587 [] := Own.Stp.trans J605 J587 (all0) all0
              exact Own.Sit.retN hR S587 hx (t := .boolean) hret (by simp) (hb hby at_274) (by decide) (by decide) ⟨J606.1, rfl⟩
        ·
          refine hG.st (fun t q => XS.icmpYes S518.here hx rfl (pc0 := 213) (pc' := 248) rfl (hb hby at_213) rfl (feq hc213).2 (by decide) (by decide) (XS.aload S518.here hx rfl (hb hby at_248) rfl rfl q)) ?_
          show G T518 (mkF m 250 #[.val (.long q0), .second, iv q1, iv q2, iv (q2 &&& (3 : Int32)), iv (((q2.toUInt32 >>> ((2 : Int32) &&& 31).toUInt32).toInt32) ^^^ (-1 : Int32)), rv x294, iv 6, rv x518, .val .null, .unset] [(.ref x518)])
          refine Own.Sit.callS hG S518 hx hEL (as := [(.ref x518)]) (hW 41 _ rfl) (hW 42 _ rfl) (hW 43 _ rfl) (hW 44 _ rfl) (by decide) (own_named l Z a0 H x518 N y518 ([c295, c298, c301, c304, c307, c310] : List Int32) h518 S518.old St518) own_pdf4991c rfl rfl (hz _ rfl) (rest := []) rfl (W := 0) (by show 2 * 0 + _ ≤ _; exact Nat.le_of_eq rfl) (hb hby at_250) (by decide) (by decide) (by decide) (by decide) (fun v607 vm607 T607 h607 S607 C607 q607 => ?_)
          obtain ⟨K607, o607, rfl, E607, qq607⟩ := q607
          have J607 : Own.Stp Z consts_1 vm518 h518 vm607 h607 [] := ⟨K607, C607⟩
          rcases qq607 with ⟨qa607, F607⟩ | ⟨qa607, F607⟩ | ⟨qa607, F607⟩
          ·
            simp at qa607
          ·
            simp only [List.cons.injEq, and_true] at qa607
            exact absurd qa607.2.2.1.symm hc213
          ·
            show G T607 (mkF m 253 #[.val (.long q0), .second, iv q1, iv q2, iv (q2 &&& (3 : Int32)), iv (((q2.toUInt32 >>> ((2 : Int32) &&& 31).toUInt32).toInt32) ^^^ (-1 : Int32)), rv x294, iv 6, rv x518, .val .null, .unset] [(.ref o607)])
            refine hG.st (fun t q => XS.aconstNull S607.here hx rfl (hb hby at_253) q) ?_
            show G T607 (mkF m 254 #[.val (.long q0), .second, iv q1, iv q2, iv (q2 &&& (3 : Int32)), iv (((q2.toUInt32 >>> ((2 : Int32) &&& 31).toUInt32).toInt32) ^^^ (-1 : Int32)), rv x294, iv 6, rv x518, .val .null, .unset] [.null, (.ref o607)])
            refine Own.Sit.callV hG S607 hx hEL (as := [.null]) (hW 79 _ rfl) (hW 80 _ rfl) (hW 82 _ rfl) (hW 81 _ rfl) (hW 76 _ rfl) (hW 83 _ rfl) (by decide) E607 (own_orN l Z a0 H o607 h607 S607.old E607 F607) own_pdc2743d rfl rfl (hz _ rfl) (rest := []) rfl (W := 0) (by show 2 * 0 + _ ≤ _; exact Nat.le_of_eq rfl) (hb hby at_254) (by decide) (by decide) (by decide) (by decide) (fun v608 vm608 T608 h608 S608 C608 q608 => ?_)
            obtain ⟨K608, rfl⟩ := q608
            have J608 : Own.Stp Z consts_1 vm607 h607 vm608 h608 [] := ⟨K608, C608⟩
            show G T608 (mkF m 257 #[.val (.long q0), .second, iv q1, iv q2, iv (q2 &&& (3 : Int32)), iv (((q2.toUInt32 >>> ((2 : Int32) &&& 31).toUInt32).toInt32) ^^^ (-1 : Int32)), rv x294, iv 6, rv x518, .val .null, .unset] [.null])
            refine Own.Sit.castNull hG S608 hx rfl rfl (hb hby at_257) ?_
            show G T608 (mkF m 260 #[.val (.long q0), .second, iv q1, iv q2, iv (q2 &&& (3 : Int32)), iv (((q2.toUInt32 >>> ((2 : Int32) &&& 31).toUInt32).toInt32) ^^^ (-1 : Int32)), rv x294, iv 6, rv x518, .val .null, .unset] [.null])
            refine hG.st (fun t q => XS.astore S608.here hx rfl (hb hby at_260) rfl rfl (l' := #[.val (.long q0), .second, iv q1, iv q2, iv (q2 &&& (3 : Int32)), iv (((q2.toUInt32 >>> ((2 : Int32) &&& 31).toUInt32).toInt32) ^^^ (-1 : Int32)), rv x294, iv 6, rv x518, .val .null, .val .null]) rfl (XS.aload S608.here hx rfl (hb hby at_262) rfl rfl (XS.aload S608.here hx rfl (hb hby at_264) rfl rfl q))) ?_
            show G T608 (mkF m 266 #[.val (.long q0), .second, iv q1, iv q2, iv (q2 &&& (3 : Int32)), iv (((q2.toUInt32 >>> ((2 : Int32) &&& 31).toUInt32).toInt32) ^^^ (-1 : Int32)), rv x294, iv 6, rv x518, .val .null, .val .null] [.null, .null])
            refine Own.Sit.acmp hG S608 hx (g := (mkF m 266 #[.val (.long q0), .second, iv q1, iv q2, iv (q2 &&& (3 : Int32)), iv (((q2.toUInt32 >>> ((2 : Int32) &&& 31).toUInt32).toInt32) ^^^ (-1 : Int32)), rv x294, iv 6, rv x518, .val .null, .val .null] [.null, .null])) rfl rfl rfl (pc0 := 266) (pc' := 269) (same := true) rfl (hb hby at_266) rfl (decide_eq_true rfl) (by decide) (by decide) ?_
            show G T608 (mkF m 269 #[.val (.long q0), .second, iv q1, iv q2, iv (q2 &&& (3 : Int32)), iv (((q2.toUInt32 >>> ((2 : Int32) &&& 31).toUInt32).toInt32) ^^^ (-1 : Int32)), rv x294, iv 6, rv x518, .val .null, .val .null] [])
            refine hG.st (fun t q => XS.iconst S608.here hx rfl (hb hby at_269) (XS.goto S608.here hx rfl (pc0 := 270) (pc' := 274) rfl (hb hby at_270) (by decide) (by decide) q)) ?_
            show G T608 (mkF m 274 #[.val (.long q0), .second, iv q1, iv q2, iv (q2 &&& (3 : Int32)), iv (((q2.toUInt32 >>> ((2 : Int32) &&& 31).toUInt32).toInt32) ^^^ (-1 : Int32)), rv x294, iv 6, rv x518, .val .null, .val .null] [(.int 1)])
            have J609 : Own.Stp Z consts_1 vm0 h0 vm295 h295 [] := Own.Stp.trans J294 J295 (all0) all0
            have J610 : Own.Stp Z consts_1 vm0 h0 vm295 h297 [] := Own.Stp.trans J609 J297 (all0) (allS (Or.inr (Nat.le_of_eq g_x294.symm)) all0)
            have J611 : Own.Stp Z consts_1 vm0 h0 vm298 h298 [] := Own.Stp.trans J610 J298 (all0) all0
            have J612 : Own.Stp Z consts_1 vm0 h0 vm298 h300 [] := Own.Stp.trans J611 J300 (all0) (allS (Or.inr (Nat.le_of_eq g_x294.symm)) all0)
            have J613 : Own.Stp Z consts_1 vm0 h0 vm301 h301 [] := Own.Stp.trans J612 J301 (all0) all0
            have J614 : Own.Stp Z consts_1 vm0 h0 vm301 h303 [] := Own.Stp.trans J613 J303 (all0) (allS (Or.inr (Nat.le_of_eq g_x294.symm)) all0)
            have J615 : Own.Stp Z consts_1 vm0 h0 vm304 h304 [] := Own.Stp.trans J614 J304 (all0) all0
            have J616 : Own.Stp Z consts_1 vm0 h0 vm304 h306 [] := Own.Stp.trans J615 J306 (all0) (allS (Or.inr (Nat.le_of_eq g_x294.symm)) all0)
            have J617 : Own.Stp Z consts_1 vm0 h0 vm307 h307 [] := Own.Stp.trans J616 J307 (all0) all0
            have J618 : Own.Stp Z consts_1 vm0 h0 vm307 h309 [] := Own.Stp.trans J617 J309 (all0) (allS (Or.inr (Nat.le_of_eq g_x294.symm)) all0)
            have J619 : Own.Stp Z consts_1 vm0 h0 vm310 h310 [] := Own.Stp.trans J618 J310 (all0) all0
            have J620 : Own.Stp Z consts_1 vm0 h0 vm310 h312 [] := Own.Stp.trans J619 J312 (all0) (allS (Or.inr (Nat.le_of_eq g_x294.symm)) all0)
            have J621 : Own.Stp Z consts_1 vm0 h0 vm313 h313 [] := Own.Stp.trans J620 J313 (all0) all0
            have J622 : Own.Stp Z consts_1 vm0 h0 vm313 h315 [] := Own.Stp.trans J621 J315 (all0) (allS (Or.inr (Nat.le_of_eq g_x294.symm)) all0)
            have J623 : Own.Stp Z consts_1 vm0 h0 vm316 h316 [] := Own.Stp.trans J622 J316 (all0) all0
            have J624 : Own.Stp Z consts_1 vm0 h0 vm316 h318 [] := Own.Stp.trans J623 J318 (all0) (allS (Or.inr (Nat.le_of_eq g_x294.symm)) all0)
            have J625 : Own.Stp Z consts_1 vm0 h0 vm518 h518 [] := Own.Stp.trans J624 J518 (all0) all0
            have J626 : Own.Stp Z consts_1 vm0 h0 vm607 h607 [] := Own.Stp.trans J625 J607 (all0) all0
            have J627 : Own.Stp Z consts_1 vm0 h0 vm608 h608 [] := Own.Stp.trans J626 J608 (all0) all0
            exact Own.Sit.retN hR S608 hx (t := .boolean) hret (by simp) (hb hby at_274) (by decide) (by decide) ⟨J627.1, rfl⟩
      ·
        refine hG.st (fun t q => XS.icmpYes S518.here hx rfl (pc0 := 204) (pc' := 248) rfl (hb hby at_204) rfl (feq hc204).2 (by decide) (by decide) (XS.aload S518.here hx rfl (hb hby at_248) rfl rfl q)) ?_
        show G T518 (mkF m 250 #[.val (.long q0), .second, iv q1, iv q2, iv (q2 &&& (3 : Int32)), iv (((q2.toUInt32 >>> ((2 : Int32) &&& 31).toUInt32).toInt32) ^^^ (-1 : Int32)), rv x294, iv 6, rv x518, .val .null, .unset] [(.ref x518)])
        refine Own.Sit.callS hG S518 hx hEL (as := [(.ref x518)]) (hW 41 _ rfl) (hW 42 _ rfl) (hW 43 _ rfl) (hW 44 _ rfl) (by decide) (own_named l Z a0 H x518 N y518 ([c295, c298, c301, c304, c307, c310] : List Int32) h518 S518.old St518) own_pdf4991c rfl rfl (hz _ rfl) (rest := []) rfl (W := 0) (by show 2 * 0 + _ ≤ _; exact Nat.le_of_eq rfl) (hb hby at_250) (by decide) (by decide) (by decide) (by decide) (fun v628 vm628 T628 h628 S628 C628 q628 => ?_)
        obtain ⟨K628, o628, rfl, E628, qq628⟩ := q628
        have J628 : Own.Stp Z consts_1 vm518 h518 vm628 h628 [] := ⟨K628, C628⟩
        rcases qq628 with ⟨qa628, F628⟩ | ⟨qa628, F628⟩ | ⟨qa628, F628⟩
        ·
          simp at qa628
        ·
          simp only [List.cons.injEq, and_true] at qa628
          exact absurd qa628.2.1.symm hc204
        ·
          show G T628 (mkF m 253 #[.val (.long q0), .second, iv q1, iv q2, iv (q2 &&& (3 : Int32)), iv (((q2.toUInt32 >>> ((2 : Int32) &&& 31).toUInt32).toInt32) ^^^ (-1 : Int32)), rv x294, iv 6, rv x518, .val .null, .unset] [(.ref o628)])
          refine hG.st (fun t q => XS.aconstNull S628.here hx rfl (hb hby at_253) q) ?_
          show G T628 (mkF m 254 #[.val (.long q0), .second, iv q1, iv q2, iv (q2 &&& (3 : Int32)), iv (((q2.toUInt32 >>> ((2 : Int32) &&& 31).toUInt32).toInt32) ^^^ (-1 : Int32)), rv x294, iv 6, rv x518, .val .null, .unset] [.null, (.ref o628)])
          refine Own.Sit.callV hG S628 hx hEL (as := [.null]) (hW 79 _ rfl) (hW 80 _ rfl) (hW 82 _ rfl) (hW 81 _ rfl) (hW 76 _ rfl) (hW 83 _ rfl) (by decide) E628 (own_orN l Z a0 H o628 h628 S628.old E628 F628) own_pdc2743d rfl rfl (hz _ rfl) (rest := []) rfl (W := 0) (by show 2 * 0 + _ ≤ _; exact Nat.le_of_eq rfl) (hb hby at_254) (by decide) (by decide) (by decide) (by decide) (fun v629 vm629 T629 h629 S629 C629 q629 => ?_)
          obtain ⟨K629, rfl⟩ := q629
          have J629 : Own.Stp Z consts_1 vm628 h628 vm629 h629 [] := ⟨K629, C629⟩
          show G T629 (mkF m 257 #[.val (.long q0), .second, iv q1, iv q2, iv (q2 &&& (3 : Int32)), iv (((q2.toUInt32 >>> ((2 : Int32) &&& 31).toUInt32).toInt32) ^^^ (-1 : Int32)), rv x294, iv 6, rv x518, .val .null, .unset] [.null])
          refine Own.Sit.castNull hG S629 hx rfl rfl (hb hby at_257) ?_
          show G T629 (mkF m 260 #[.val (.long q0), .second, iv q1, iv q2, iv (q2 &&& (3 : Int32)), iv (((q2.toUInt32 >>> ((2 : Int32) &&& 31).toUInt32).toInt32) ^^^ (-1 : Int32)), rv x294, iv 6, rv x518, .val .null, .unset] [.null])
          refine hG.st (fun t q => XS.astore S629.here hx rfl (hb hby at_260) rfl rfl (l' := #[.val (.long q0), .second, iv q1, iv q2, iv (q2 &&& (3 : Int32)), iv (((q2.toUInt32 >>> ((2 : Int32) &&& 31).toUInt32).toInt32) ^^^ (-1 : Int32)), rv x294, iv 6, rv x518, .val .null, .val .null]) rfl (XS.aload S629.here hx rfl (hb hby at_262) rfl rfl (XS.aload S629.here hx rfl (hb hby at_264) rfl rfl q))) ?_
          show G T629 (mkF m 266 #[.val (.long q0), .second, iv q1, iv q2, iv (q2 &&& (3 : Int32)), iv (((q2.toUInt32 >>> ((2 : Int32) &&& 31).toUInt32).toInt32) ^^^ (-1 : Int32)), rv x294, iv 6, rv x518, .val .null, .val .null] [.null, .null])
          refine Own.Sit.acmp hG S629 hx (g := (mkF m 266 #[.val (.long q0), .second, iv q1, iv q2, iv (q2 &&& (3 : Int32)), iv (((q2.toUInt32 >>> ((2 : Int32) &&& 31).toUInt32).toInt32) ^^^ (-1 : Int32)), rv x294, iv 6, rv x518, .val .null, .val .null] [.null, .null])) rfl rfl rfl (pc0 := 266) (pc' := 269) (same := true) rfl (hb hby at_266) rfl (decide_eq_true rfl) (by decide) (by decide) ?_
          show G T629 (mkF m 269 #[.val (.long q0), .second, iv q1, iv q2, iv (q2 &&& (3 : Int32)), iv (((q2.toUInt32 >>> ((2 : Int32) &&& 31).toUInt32).toInt32) ^^^ (-1 : Int32)), rv x294, iv 6, rv x518, .val .null, .val .null] [])
          refine hG.st (fun t q => XS.iconst S629.here hx rfl (hb hby at_269) (XS.goto S629.here hx rfl (pc0 := 270) (pc' := 274) rfl (hb hby at_270) (by decide) (by decide) q)) ?_
          show G T629 (mkF m 274 #[.val (.long q0), .second, iv q1, iv q2, iv (q2 &&& (3 : Int32)), iv (((q2.toUInt32 >>> ((2 : Int32) &&& 31).toUInt32).toInt32) ^^^ (-1 : Int32)), rv x294, iv 6, rv x518, .val .null, .val .null] [(.int 1)])
          have J630 : Own.Stp Z consts_1 vm0 h0 vm295 h295 [] := Own.Stp.trans J294 J295 (all0) all0
          have J631 : Own.Stp Z consts_1 vm0 h0 vm295 h297 [] := Own.Stp.trans J630 J297 (all0) (allS (Or.inr (Nat.le_of_eq g_x294.symm)) all0)
          have J632 : Own.Stp Z consts_1 vm0 h0 vm298 h298 [] := Own.Stp.trans J631 J298 (all0) all0
          have J633 : Own.Stp Z consts_1 vm0 h0 vm298 h300 [] := Own.Stp.trans J632 J300 (all0) (allS (Or.inr (Nat.le_of_eq g_x294.symm)) all0)
          have J634 : Own.Stp Z consts_1 vm0 h0 vm301 h301 [] := Own.Stp.trans J633 J301 (all0) all0
          have J635 : Own.Stp Z consts_1 vm0 h0 vm301 h303 [] := Own.Stp.trans J634 J303 (all0) (allS (Or.inr (Nat.le_of_eq g_x294.symm)) all0)
          have J636 : Own.Stp Z consts_1 vm0 h0 vm304 h304 [] := Own.Stp.trans J635 J304 (all0) all0
          have J637 : Own.Stp Z consts_1 vm0 h0 vm304 h306 [] := Own.Stp.trans J636 J306 (all0) (allS (Or.inr (Nat.le_of_eq g_x294.symm)) all0)
          have J638 : Own.Stp Z consts_1 vm0 h0 vm307 h307 [] := Own.Stp.trans J637 J307 (all0) all0
          have J639 : Own.Stp Z consts_1 vm0 h0 vm307 h309 [] := Own.Stp.trans J638 J309 (all0) (allS (Or.inr (Nat.le_of_eq g_x294.symm)) all0)
          have J640 : Own.Stp Z consts_1 vm0 h0 vm310 h310 [] := Own.Stp.trans J639 J310 (all0) all0
          have J641 : Own.Stp Z consts_1 vm0 h0 vm310 h312 [] := Own.Stp.trans J640 J312 (all0) (allS (Or.inr (Nat.le_of_eq g_x294.symm)) all0)
          have J642 : Own.Stp Z consts_1 vm0 h0 vm313 h313 [] := Own.Stp.trans J641 J313 (all0) all0
          have J643 : Own.Stp Z consts_1 vm0 h0 vm313 h315 [] := Own.Stp.trans J642 J315 (all0) (allS (Or.inr (Nat.le_of_eq g_x294.symm)) all0)
          have J644 : Own.Stp Z consts_1 vm0 h0 vm316 h316 [] := Own.Stp.trans J643 J316 (all0) all0
          have J645 : Own.Stp Z consts_1 vm0 h0 vm316 h318 [] := Own.Stp.trans J644 J318 (all0) (allS (Or.inr (Nat.le_of_eq g_x294.symm)) all0)
          have J646 : Own.Stp Z consts_1 vm0 h0 vm518 h518 [] := Own.Stp.trans J645 J518 (all0) all0
          have J647 : Own.Stp Z consts_1 vm0 h0 vm628 h628 [] := Own.Stp.trans J646 J628 (all0) all0
          have J648 : Own.Stp Z consts_1 vm0 h0 vm629 h629 [] := Own.Stp.trans J647 J629 (all0) all0
          exact Own.Sit.retN hR S629 hx (t := .boolean) hret (by simp) (hb hby at_274) (by decide) (by decide) ⟨J648.1, rfl⟩
    ·
      refine hG.st (fun t q => XS.icmpYes S518.here hx rfl (pc0 := 195) (pc' := 248) rfl (hb hby at_195) rfl (feq hc195).2 (by decide) (by decide) (XS.aload S518.here hx rfl (hb hby at_248) rfl rfl q)) ?_
      show G T518 (mkF m 250 #[.val (.long q0), .second, iv q1, iv q2, iv (q2 &&& (3 : Int32)), iv (((q2.toUInt32 >>> ((2 : Int32) &&& 31).toUInt32).toInt32) ^^^ (-1 : Int32)), rv x294, iv 6, rv x518, .val .null, .unset] [(.ref x518)])
      refine Own.Sit.callS hG S518 hx hEL (as := [(.ref x518)]) (hW 41 _ rfl) (hW 42 _ rfl) (hW 43 _ rfl) (hW 44 _ rfl) (by decide) (own_named l Z a0 H x518 N y518 ([c295, c298, c301, c304, c307, c310] : List Int32) h518 S518.old St518) own_pdf4991c rfl rfl (hz _ rfl) (rest := []) rfl (W := 0) (by show 2 * 0 + _ ≤ _; exact Nat.le_of_eq rfl) (hb hby at_250) (by decide) (by decide) (by decide) (by decide) (fun v649 vm649 T649 h649 S649 C649 q649 => ?_)
      obtain ⟨K649, o649, rfl, E649, qq649⟩ := q649
      have J649 : Own.Stp Z consts_1 vm518 h518 vm649 h649 [] := ⟨K649, C649⟩
      rcases qq649 with ⟨qa649, F649⟩ | ⟨qa649, F649⟩ | ⟨qa649, F649⟩
      ·
        simp at qa649
      ·
        simp only [List.cons.injEq, and_true] at qa649
        exact absurd qa649.1.symm hc195
      ·
        show G T649 (mkF m 253 #[.val (.long q0), .second, iv q1, iv q2, iv (q2 &&& (3 : Int32)), iv (((q2.toUInt32 >>> ((2 : Int32) &&& 31).toUInt32).toInt32) ^^^ (-1 : Int32)), rv x294, iv 6, rv x518, .val .null, .unset] [(.ref o649)])
        refine hG.st (fun t q => XS.aconstNull S649.here hx rfl (hb hby at_253) q) ?_
        show G T649 (mkF m 254 #[.val (.long q0), .second, iv q1, iv q2, iv (q2 &&& (3 : Int32)), iv (((q2.toUInt32 >>> ((2 : Int32) &&& 31).toUInt32).toInt32) ^^^ (-1 : Int32)), rv x294, iv 6, rv x518, .val .null, .unset] [.null, (.ref o649)])
        refine Own.Sit.callV hG S649 hx hEL (as := [.null]) (hW 79 _ rfl) (hW 80 _ rfl) (hW 82 _ rfl) (hW 81 _ rfl) (hW 76 _ rfl) (hW 83 _ rfl) (by decide) E649 (own_orN l Z a0 H o649 h649 S649.old E649 F649) own_pdc2743d rfl rfl (hz _ rfl) (rest := []) rfl (W := 0) (by show 2 * 0 + _ ≤ _; exact Nat.le_of_eq rfl) (hb hby at_254) (by decide) (by decide) (by decide) (by decide) (fun v650 vm650 T650 h650 S650 C650 q650 => ?_)
        obtain ⟨K650, rfl⟩ := q650
        have J650 : Own.Stp Z consts_1 vm649 h649 vm650 h650 [] := ⟨K650, C650⟩
        show G T650 (mkF m 257 #[.val (.long q0), .second, iv q1, iv q2, iv (q2 &&& (3 : Int32)), iv (((q2.toUInt32 >>> ((2 : Int32) &&& 31).toUInt32).toInt32) ^^^ (-1 : Int32)), rv x294, iv 6, rv x518, .val .null, .unset] [.null])
        refine Own.Sit.castNull hG S650 hx rfl rfl (hb hby at_257) ?_
        show G T650 (mkF m 260 #[.val (.long q0), .second, iv q1, iv q2, iv (q2 &&& (3 : Int32)), iv (((q2.toUInt32 >>> ((2 : Int32) &&& 31).toUInt32).toInt32) ^^^ (-1 : Int32)), rv x294, iv 6, rv x518, .val .null, .unset] [.null])
        refine hG.st (fun t q => XS.astore S650.here hx rfl (hb hby at_260) rfl rfl (l' := #[.val (.long q0), .second, iv q1, iv q2, iv (q2 &&& (3 : Int32)), iv (((q2.toUInt32 >>> ((2 : Int32) &&& 31).toUInt32).toInt32) ^^^ (-1 : Int32)), rv x294, iv 6, rv x518, .val .null, .val .null]) rfl (XS.aload S650.here hx rfl (hb hby at_262) rfl rfl (XS.aload S650.here hx rfl (hb hby at_264) rfl rfl q))) ?_
        show G T650 (mkF m 266 #[.val (.long q0), .second, iv q1, iv q2, iv (q2 &&& (3 : Int32)), iv (((q2.toUInt32 >>> ((2 : Int32) &&& 31).toUInt32).toInt32) ^^^ (-1 : Int32)), rv x294, iv 6, rv x518, .val .null, .val .null] [.null, .null])
        refine Own.Sit.acmp hG S650 hx (g := (mkF m 266 #[.val (.long q0), .second, iv q1, iv q2, iv (q2 &&& (3 : Int32)), iv (((q2.toUInt32 >>> ((2 : Int32) &&& 31).toUInt32).toInt32) ^^^ (-1 : Int32)), rv x294, iv 6, rv x518, .val .null, .val .null] [.null, .null])) rfl rfl rfl (pc0 := 266) (pc' := 269) (same := true) rfl (hb hby at_266) rfl (decide_eq_true rfl) (by decide) (by decide) ?_
        show G T650 (mkF m 269 #[.val (.long q0), .second, iv q1, iv q2, iv (q2 &&& (3 : Int32)), iv (((q2.toUInt32 >>> ((2 : Int32) &&& 31).toUInt32).toInt32) ^^^ (-1 : Int32)), rv x294, iv 6, rv x518, .val .null, .val .null] [])
        refine hG.st (fun t q => XS.iconst S650.here hx rfl (hb hby at_269) (XS.goto S650.here hx rfl (pc0 := 270) (pc' := 274) rfl (hb hby at_270) (by decide) (by decide) q)) ?_
        show G T650 (mkF m 274 #[.val (.long q0), .second, iv q1, iv q2, iv (q2 &&& (3 : Int32)), iv (((q2.toUInt32 >>> ((2 : Int32) &&& 31).toUInt32).toInt32) ^^^ (-1 : Int32)), rv x294, iv 6, rv x518, .val .null, .val .null] [(.int 1)])
        have J651 : Own.Stp Z consts_1 vm0 h0 vm295 h295 [] := Own.Stp.trans J294 J295 (all0) all0
        have J652 : Own.Stp Z consts_1 vm0 h0 vm295 h297 [] := Own.Stp.trans J651 J297 (all0) (allS (Or.inr (Nat.le_of_eq g_x294.symm)) all0)
        have J653 : Own.Stp Z consts_1 vm0 h0 vm298 h298 [] := Own.Stp.trans J652 J298 (all0) all0
        have J654 : Own.Stp Z consts_1 vm0 h0 vm298 h300 [] := Own.Stp.trans J653 J300 (all0) (allS (Or.inr (Nat.le_of_eq g_x294.symm)) all0)
        have J655 : Own.Stp Z consts_1 vm0 h0 vm301 h301 [] := Own.Stp.trans J654 J301 (all0) all0
        have J656 : Own.Stp Z consts_1 vm0 h0 vm301 h303 [] := Own.Stp.trans J655 J303 (all0) (allS (Or.inr (Nat.le_of_eq g_x294.symm)) all0)
        have J657 : Own.Stp Z consts_1 vm0 h0 vm304 h304 [] := Own.Stp.trans J656 J304 (all0) all0
        have J658 : Own.Stp Z consts_1 vm0 h0 vm304 h306 [] := Own.Stp.trans J657 J306 (all0) (allS (Or.inr (Nat.le_of_eq g_x294.symm)) all0)
        have J659 : Own.Stp Z consts_1 vm0 h0 vm307 h307 [] := Own.Stp.trans J658 J307 (all0) all0
        have J660 : Own.Stp Z consts_1 vm0 h0 vm307 h309 [] := Own.Stp.trans J659 J309 (all0) (allS (Or.inr (Nat.le_of_eq g_x294.symm)) all0)
        have J661 : Own.Stp Z consts_1 vm0 h0 vm310 h310 [] := Own.Stp.trans J660 J310 (all0) all0
        have J662 : Own.Stp Z consts_1 vm0 h0 vm310 h312 [] := Own.Stp.trans J661 J312 (all0) (allS (Or.inr (Nat.le_of_eq g_x294.symm)) all0)
        have J663 : Own.Stp Z consts_1 vm0 h0 vm313 h313 [] := Own.Stp.trans J662 J313 (all0) all0
        have J664 : Own.Stp Z consts_1 vm0 h0 vm313 h315 [] := Own.Stp.trans J663 J315 (all0) (allS (Or.inr (Nat.le_of_eq g_x294.symm)) all0)
        have J665 : Own.Stp Z consts_1 vm0 h0 vm316 h316 [] := Own.Stp.trans J664 J316 (all0) all0
        have J666 : Own.Stp Z consts_1 vm0 h0 vm316 h318 [] := Own.Stp.trans J665 J318 (all0) (allS (Or.inr (Nat.le_of_eq g_x294.symm)) all0)
        have J667 : Own.Stp Z consts_1 vm0 h0 vm518 h518 [] := Own.Stp.trans J666 J518 (all0) all0
        have J668 : Own.Stp Z consts_1 vm0 h0 vm649 h649 [] := Own.Stp.trans J667 J649 (all0) all0
        have J669 : Own.Stp Z consts_1 vm0 h0 vm650 h650 [] := Own.Stp.trans J668 J650 (all0) all0
        exact Own.Sit.retN hR S650 hx (t := .boolean) hret (by simp) (hb hby at_274) (by decide) (by decide) ⟨J669.1, rfl⟩
  rw [own_seven hk0 hk1 hk2 hk3 hk4 hk5 hk6]
  show G T318 (mkF m 132 #[.val (.long q0), .second, iv q1, iv q2, iv (q2 &&& (3 : Int32)), iv (((q2.toUInt32 >>> ((2 : Int32) &&& 31).toUInt32).toInt32) ^^^ (-1 : Int32)), rv x294, iv 7, .unset, .unset, .unset] [])
  refine hG.st (fun t q => XS.aload S318.here hx rfl (hb hby at_132) rfl rfl (XS.iload S318.here hx rfl (hb hby at_134) rfl q)) ?_
  show G T318 (mkF m 136 #[.val (.long q0), .second, iv q1, iv q2, iv (q2 &&& (3 : Int32)), iv (((q2.toUInt32 >>> ((2 : Int32) &&& 31).toUInt32).toInt32) ^^^ (-1 : Int32)), rv x294, iv 7, .unset, .unset, .unset] [(.int 7), (.ref x294)])
  refine Own.Sit.callS hG S318 hx hEL (as := [(.ref x294), (.int 7)]) (hW 9 _ rfl) (hW 10 _ rfl) (hW 3 _ rfl) (hW 11 _ rfl) (by decide) (own_str7 l Z a0 H x294 c295 c298 c301 c304 c307 c310 c313 c316 h318 S318.old V318 r295 r298 r301 r304 r307 r310 r313 r316) own_pde07951 rfl rfl (hz _ rfl) (rest := []) rfl (W := 0) (by show 2 * 0 + _ ≤ _; exact Nat.le_of_eq rfl) (hb hby at_136) (by decide) (by decide) (by decide) (by decide) (fun v670 vm670 T670 h670 S670 C670 q670 => ?_)
  obtain ⟨K670, x670, y670, rfl, St670, u670⟩ := q670
  have J670 : Own.Stp Z consts_1 vm316 h318 vm670 h670 [] := ⟨K670, C670⟩
  show G T670 (mkF m 139 #[.val (.long q0), .second, iv q1, iv q2, iv (q2 &&& (3 : Int32)), iv (((q2.toUInt32 >>> ((2 : Int32) &&& 31).toUInt32).toInt32) ^^^ (-1 : Int32)), rv x294, iv 7, .unset, .unset, .unset] [(.ref x670)])
  refine hG.st (fun t q => XS.astore S670.here hx rfl (hb hby at_139) rfl rfl (l' := #[.val (.long q0), .second, iv q1, iv q2, iv (q2 &&& (3 : Int32)), iv (((q2.toUInt32 >>> ((2 : Int32) &&& 31).toUInt32).toInt32) ^^^ (-1 : Int32)), rv x294, iv 7, rv x670, .unset, .unset]) rfl (XS.aconstNull S670.here hx rfl (hb hby at_141) (XS.astore S670.here hx rfl (hb hby at_142) rfl rfl (l' := #[.val (.long q0), .second, iv q1, iv q2, iv (q2 &&& (3 : Int32)), iv (((q2.toUInt32 >>> ((2 : Int32) &&& 31).toUInt32).toInt32) ^^^ (-1 : Int32)), rv x294, iv 7, rv x670, .val .null, .unset]) rfl (XS.iload S670.here hx rfl (hb hby at_144) rfl (XS.iconst S670.here hx rfl (hb hby at_146) (XS.icmpYes S670.here hx rfl (pc0 := 147) (pc' := 182) rfl (hb hby at_147) rfl (feq (by decide : ¬ ((7 : Int32) = (3 : Int32)))).2 (by decide) (by decide) q)))))) ?_
  show G T670 (mkF m 182 #[.val (.long q0), .second, iv q1, iv q2, iv (q2 &&& (3 : Int32)), iv (((q2.toUInt32 >>> ((2 : Int32) &&& 31).toUInt32).toInt32) ^^^ (-1 : Int32)), rv x294, iv 7, rv x670, .val .null, .unset] [])
  refine hG.st (fun t q => XS.iload S670.here hx rfl (hb hby at_182) rfl (XS.bipush S670.here hx rfl (hb hby at_184) (XS.icmpYes S670.here hx rfl (pc0 := 186) (pc' := 248) rfl (hb hby at_186) rfl (feq (by decide : ¬ ((7 : Int32) = (6 : Int32)))).2 (by decide) (by decide) (XS.aload S670.here hx rfl (hb hby at_248) rfl rfl q)))) ?_
  show G T670 (mkF m 250 #[.val (.long q0), .second, iv q1, iv q2, iv (q2 &&& (3 : Int32)), iv (((q2.toUInt32 >>> ((2 : Int32) &&& 31).toUInt32).toInt32) ^^^ (-1 : Int32)), rv x294, iv 7, rv x670, .val .null, .unset] [(.ref x670)])
  refine Own.Sit.callS hG S670 hx hEL (as := [(.ref x670)]) (hW 41 _ rfl) (hW 42 _ rfl) (hW 43 _ rfl) (hW 44 _ rfl) (by decide) (own_named l Z a0 H x670 N y670 ([c295, c298, c301, c304, c307, c310, c313] : List Int32) h670 S670.old St670) own_pdf4991c rfl rfl (hz _ rfl) (rest := []) rfl (W := 0) (by show 2 * 0 + _ ≤ _; exact Nat.le_of_eq rfl) (hb hby at_250) (by decide) (by decide) (by decide) (by decide) (fun v671 vm671 T671 h671 S671 C671 q671 => ?_)
  obtain ⟨K671, o671, rfl, E671, qq671⟩ := q671
  have J671 : Own.Stp Z consts_1 vm670 h670 vm671 h671 [] := ⟨K671, C671⟩
  rcases qq671 with ⟨qa671, F671⟩ | ⟨qa671, F671⟩ | ⟨qa671, F671⟩
  ·
    simp at qa671
  ·
    simp at qa671
  ·
    show G T671 (mkF m 253 #[.val (.long q0), .second, iv q1, iv q2, iv (q2 &&& (3 : Int32)), iv (((q2.toUInt32 >>> ((2 : Int32) &&& 31).toUInt32).toInt32) ^^^ (-1 : Int32)), rv x294, iv 7, rv x670, .val .null, .unset] [(.ref o671)])
    refine hG.st (fun t q => XS.aconstNull S671.here hx rfl (hb hby at_253) q) ?_
    show G T671 (mkF m 254 #[.val (.long q0), .second, iv q1, iv q2, iv (q2 &&& (3 : Int32)), iv (((q2.toUInt32 >>> ((2 : Int32) &&& 31).toUInt32).toInt32) ^^^ (-1 : Int32)), rv x294, iv 7, rv x670, .val .null, .unset] [.null, (.ref o671)])
    refine Own.Sit.callV hG S671 hx hEL (as := [.null]) (hW 79 _ rfl) (hW 80 _ rfl) (hW 82 _ rfl) (hW 81 _ rfl) (hW 76 _ rfl) (hW 83 _ rfl) (by decide) E671 (own_orN l Z a0 H o671 h671 S671.old E671 F671) own_pdc2743d rfl rfl (hz _ rfl) (rest := []) rfl (W := 0) (by show 2 * 0 + _ ≤ _; exact Nat.le_of_eq rfl) (hb hby at_254) (by decide) (by decide) (by decide) (by decide) (fun v672 vm672 T672 h672 S672 C672 q672 => ?_)
    obtain ⟨K672, rfl⟩ := q672
    have J672 : Own.Stp Z consts_1 vm671 h671 vm672 h672 [] := ⟨K672, C672⟩
    show G T672 (mkF m 257 #[.val (.long q0), .second, iv q1, iv q2, iv (q2 &&& (3 : Int32)), iv (((q2.toUInt32 >>> ((2 : Int32) &&& 31).toUInt32).toInt32) ^^^ (-1 : Int32)), rv x294, iv 7, rv x670, .val .null, .unset] [.null])
    refine Own.Sit.castNull hG S672 hx rfl rfl (hb hby at_257) ?_
    show G T672 (mkF m 260 #[.val (.long q0), .second, iv q1, iv q2, iv (q2 &&& (3 : Int32)), iv (((q2.toUInt32 >>> ((2 : Int32) &&& 31).toUInt32).toInt32) ^^^ (-1 : Int32)), rv x294, iv 7, rv x670, .val .null, .unset] [.null])
    refine hG.st (fun t q => XS.astore S672.here hx rfl (hb hby at_260) rfl rfl (l' := #[.val (.long q0), .second, iv q1, iv q2, iv (q2 &&& (3 : Int32)), iv (((q2.toUInt32 >>> ((2 : Int32) &&& 31).toUInt32).toInt32) ^^^ (-1 : Int32)), rv x294, iv 7, rv x670, .val .null, .val .null]) rfl (XS.aload S672.here hx rfl (hb hby at_262) rfl rfl (XS.aload S672.here hx rfl (hb hby at_264) rfl rfl q))) ?_
    show G T672 (mkF m 266 #[.val (.long q0), .second, iv q1, iv q2, iv (q2 &&& (3 : Int32)), iv (((q2.toUInt32 >>> ((2 : Int32) &&& 31).toUInt32).toInt32) ^^^ (-1 : Int32)), rv x294, iv 7, rv x670, .val .null, .val .null] [.null, .null])
    refine Own.Sit.acmp hG S672 hx (g := (mkF m 266 #[.val (.long q0), .second, iv q1, iv q2, iv (q2 &&& (3 : Int32)), iv (((q2.toUInt32 >>> ((2 : Int32) &&& 31).toUInt32).toInt32) ^^^ (-1 : Int32)), rv x294, iv 7, rv x670, .val .null, .val .null] [.null, .null])) rfl rfl rfl (pc0 := 266) (pc' := 269) (same := true) rfl (hb hby at_266) rfl (decide_eq_true rfl) (by decide) (by decide) ?_
    show G T672 (mkF m 269 #[.val (.long q0), .second, iv q1, iv q2, iv (q2 &&& (3 : Int32)), iv (((q2.toUInt32 >>> ((2 : Int32) &&& 31).toUInt32).toInt32) ^^^ (-1 : Int32)), rv x294, iv 7, rv x670, .val .null, .val .null] [])
    refine hG.st (fun t q => XS.iconst S672.here hx rfl (hb hby at_269) (XS.goto S672.here hx rfl (pc0 := 270) (pc' := 274) rfl (hb hby at_270) (by decide) (by decide) q)) ?_
    show G T672 (mkF m 274 #[.val (.long q0), .second, iv q1, iv q2, iv (q2 &&& (3 : Int32)), iv (((q2.toUInt32 >>> ((2 : Int32) &&& 31).toUInt32).toInt32) ^^^ (-1 : Int32)), rv x294, iv 7, rv x670, .val .null, .val .null] [(.int 1)])
    have J673 : Own.Stp Z consts_1 vm0 h0 vm295 h295 [] := Own.Stp.trans J294 J295 (all0) all0
    have J674 : Own.Stp Z consts_1 vm0 h0 vm295 h297 [] := Own.Stp.trans J673 J297 (all0) (allS (Or.inr (Nat.le_of_eq g_x294.symm)) all0)
    have J675 : Own.Stp Z consts_1 vm0 h0 vm298 h298 [] := Own.Stp.trans J674 J298 (all0) all0
    have J676 : Own.Stp Z consts_1 vm0 h0 vm298 h300 [] := Own.Stp.trans J675 J300 (all0) (allS (Or.inr (Nat.le_of_eq g_x294.symm)) all0)
    have J677 : Own.Stp Z consts_1 vm0 h0 vm301 h301 [] := Own.Stp.trans J676 J301 (all0) all0
    have J678 : Own.Stp Z consts_1 vm0 h0 vm301 h303 [] := Own.Stp.trans J677 J303 (all0) (allS (Or.inr (Nat.le_of_eq g_x294.symm)) all0)
    have J679 : Own.Stp Z consts_1 vm0 h0 vm304 h304 [] := Own.Stp.trans J678 J304 (all0) all0
    have J680 : Own.Stp Z consts_1 vm0 h0 vm304 h306 [] := Own.Stp.trans J679 J306 (all0) (allS (Or.inr (Nat.le_of_eq g_x294.symm)) all0)
    have J681 : Own.Stp Z consts_1 vm0 h0 vm307 h307 [] := Own.Stp.trans J680 J307 (all0) all0
    have J682 : Own.Stp Z consts_1 vm0 h0 vm307 h309 [] := Own.Stp.trans J681 J309 (all0) (allS (Or.inr (Nat.le_of_eq g_x294.symm)) all0)
    have J683 : Own.Stp Z consts_1 vm0 h0 vm310 h310 [] := Own.Stp.trans J682 J310 (all0) all0
    have J684 : Own.Stp Z consts_1 vm0 h0 vm310 h312 [] := Own.Stp.trans J683 J312 (all0) (allS (Or.inr (Nat.le_of_eq g_x294.symm)) all0)
    have J685 : Own.Stp Z consts_1 vm0 h0 vm313 h313 [] := Own.Stp.trans J684 J313 (all0) all0
    have J686 : Own.Stp Z consts_1 vm0 h0 vm313 h315 [] := Own.Stp.trans J685 J315 (all0) (allS (Or.inr (Nat.le_of_eq g_x294.symm)) all0)
    have J687 : Own.Stp Z consts_1 vm0 h0 vm316 h316 [] := Own.Stp.trans J686 J316 (all0) all0
    have J688 : Own.Stp Z consts_1 vm0 h0 vm316 h318 [] := Own.Stp.trans J687 J318 (all0) (allS (Or.inr (Nat.le_of_eq g_x294.symm)) all0)
    have J689 : Own.Stp Z consts_1 vm0 h0 vm670 h670 [] := Own.Stp.trans J688 J670 (all0) all0
    have J690 : Own.Stp Z consts_1 vm0 h0 vm671 h671 [] := Own.Stp.trans J689 J671 (all0) all0
    have J691 : Own.Stp Z consts_1 vm0 h0 vm672 h672 [] := Own.Stp.trans J690 J672 (all0) all0
    exact Own.Sit.retN hR S672 hx (t := .boolean) hret (by simp) (hb hby at_274) (by decide) (by decide) ⟨J691.1, rfl⟩
set_option maxRecDepth 65536 in
set_option maxHeartbeats 40000000 in
theorem own_comes {Post : Tables → Env → Array Value → State → Outcome → State → Prop} (hpost : ∀ tb e args s v u, (limb_1_1.after args s (.returned v) u = true ∧ limb_1_2.after args s (.returned v) u = true ∧ True) → ReturnedEndW s (.returned v) u (Jvm.fieldLocs frame_1_writes args s ++ Jvm.arrayLocs frame_1_arrays args s ++ Jvm.staticLocs frame_1_statics s) 24 2176 → Post tb e args s (.returned v) u) :
    ArmFor flags0 classFile x code maxLocals ret World_1 tables_1 room_1 Calls_1 rest_1 Pre_1 Post := by
  intro l hfl _ _ p e ha hc hk s m args below hf hA hF happ hP
  obtain ⟨hcalls, hrest, hpre⟩ := hP
  obtain ⟨-, -, -, hnamed, -, -, -, hat⟩ := (Spec.applies_iff hf).mp happ
  obtain ⟨hg, hn⟩ := and_e (Cond.before_iff.mp (show (Jvm.Cond.and given_1 narrow_1).before args s = true from hpre))
  obtain ⟨hcount, hg0⟩ := and_e hg
  obtain ⟨ha0, hg1⟩ := and_e hg0
  obtain ⟨ha1, hg2⟩ := and_e hg1
  have ha2 := hg2
  obtain ⟨w0, w1, w2, rfl⟩ : ∃ w0 w1 w2 : Value, args = #[w0, w1, w2] := by
    have hs : args.size = 3 := by simpa [Cond.value, given_1] using hcount
    obtain ⟨L⟩ := args
    match L, hs with
    | [w0, w1, w2], _ => exact ⟨w0, w1, w2, rfl⟩
  have hw := fun d (hd : d ∈ tables_1) => atoms_spec (ws := Jvm.Cond.code x code maxLocals ret :: tables_1) hat d (List.mem_cons_of_mem _ hd)
  have hW := fun (i : Nat) (w : Jvm.Cond) (e : tables_1[i]? = some w) => hw w (List.mem_of_getElem? e)
  obtain ⟨hsets, hown0⟩ := atoms_of _ (rest_1_c_eq ▸ (show rest_1_c.before _ s = true from hrest))
  have hfit : Fit s := fun {y c} hc i hi => by
    obtain ⟨ha, rfl⟩ := Array.getElem?_eq_some_iff.mp hc
    have q := List.all_eq_true.mp ((Array.all_eq_true_iff_forall_mem.mp hF) _ (Array.getElem_mem ha)) i (List.mem_range.mpr hi)
    simpa [Array.getElem?_eq_getElem hi] using q
  obtain ⟨i0, ea0⟩ := isL_v ha0
  obtain rfl : w0 = (.long i0) := Option.some.inj ea0
  obtain ⟨i1, ea1⟩ := is_v ha1
  obtain rfl : w1 = (.int i1) := Option.some.inj ea1
  obtain ⟨i2, ea2⟩ := is_v ha2
  obtain rfl : w2 = (.int i2) := Option.some.inj ea2
  have ncs := not_v (Cond.before_iff.mp (hsets _ (List.mem_of_getElem? (i := 2) rfl)))
  obtain ⟨zcs, ecs⟩ := is_v (Cond.before_iff.mp (hsets _ (List.mem_of_getElem? (i := 1) rfl)))
  have hCm : Own.Cmp s := ⟨zcs, Sta.start ecs (Or.inl (hsets _ (List.mem_of_getElem? (i := 0) rfl))), gotF (Cond.eq_ints ecs (Term.int_eval (0))) ncs⟩
  obtain ⟨vsi, esi, rsi⟩ := isR_v (Cond.before_iff.mp (hsets _ (List.mem_of_getElem? (i := 8) rfl)))
  have hSi : Own.Sio s := ⟨vsi, Sta.start esi (Or.inl (hsets _ (List.mem_of_getElem? (i := 7) rfl))), rsi⟩
  have hEL : EW s _ consts_1 := (EW.cons (hW 89 _ rfl) (by decide) (EW.cons (hW 86 _ rfl) (by decide) EW.nil))
  have hCH : CHv s consts_1 s.vm s.heap := CHv.start hEL (fun p hp => hcalls.1 p hp) (hsets _ (List.mem_of_getElem? (i := 2) rfl)) (hW 30 _ rfl) (hW 13 _ rfl)
  have HW : own_Wld s _ := ⟨hw, hCm, hSi, hEL⟩
  obtain ⟨nw0, hn1⟩ := and_e hn
  obtain ⟨nw1, hn2⟩ := and_e hn1
  obtain ⟨nw2, hn3⟩ := and_e hn2
  obtain ⟨nw3, hn4⟩ := and_e hn3
  obtain ⟨nw4, hn5⟩ := and_e hn4
  obtain ⟨nw5, hn6⟩ := and_e hn5
  obtain ⟨nw6, hn7⟩ := and_e hn6
  obtain ⟨nw7, hn8⟩ := and_e hn7
  obtain ⟨nw8, hn9⟩ := and_e hn8
  obtain ⟨nw9, hn10⟩ := and_e hn9
  obtain ⟨nw10, hn11⟩ := and_e hn10
  obtain ⟨nw11, hn12⟩ := and_e hn11
  obtain ⟨nw12, hn13⟩ := and_e hn12
  obtain ⟨nw13, hn14⟩ := and_e hn13
  obtain ⟨nw14, hn15⟩ := and_e hn14
  obtain ⟨nw15, hn16⟩ := and_e hn15
  obtain ⟨nw16, hn17⟩ := and_e hn16
  obtain ⟨nw17, hn18⟩ := and_e hn17
  obtain ⟨nw18, hn19⟩ := and_e hn18
  obtain ⟨nw19, hn20⟩ := and_e hn19
  obtain ⟨nw20, hn21⟩ := and_e hn20
  obtain ⟨nw21, hn22⟩ := and_e hn21
  obtain ⟨nw22, hn23⟩ := and_e hn22
  have nw23 := hn23
  obtain ⟨ad1, evad1⟩ := arr_v nw0
  have EXad1 := Exa.start evad1 nw1
  have ei2 := Own.eqI nw2 (Term.int_eval (2))
  obtain ⟨ad2, evad2⟩ := exa_v nw3
  have EXad2 := Exa.start evad2 nw3
  have ei4 := Own.eqR nw4 evad2
  obtain ⟨ad3, evad3⟩ := exa_v nw5
  have EXad3 := Exa.start evad3 nw5
  have ei6 := Own.eqR nw6 evad3
  obtain ⟨ad4, evad4⟩ := exa_v nw7
  have EXad4 := Exa.start evad4 nw7
  have ei8 := Own.eqI nw8 (Term.int_eval (0))
  obtain ⟨ad5, evad5⟩ := arr_v nw9
  have ei10 := Own.eqI nw10 (Term.int_eval (3))
  obtain ⟨ad6, evad6⟩ := exa_v nw11
  have EXad6 := Exa.start evad6 nw11
  have ei12 := Own.eqI nw12 (Term.int_eval (0))
  obtain ⟨ad7, evad7⟩ := arr_v nw13
  have ei14 := Own.eqI nw14 (Term.int_eval (6))
  have ei15 := Own.eqI nw15 (Term.int_eval (97))
  have ei16 := Own.eqI nw16 (Term.int_eval (100))
  have ei17 := Own.eqI nw17 (Term.int_eval (100))
  have ei18 := Own.eqI nw18 (Term.int_eval (100))
  have ei19 := Own.eqI nw19 (Term.int_eval (101))
  have ei20 := Own.eqI nw20 (Term.int_eval (108))
  have ei21 := Own.eqI nw21 (Term.int_eval (101))
  have ei22 := Own.eqI nw22 (Term.int_eval (116))
  have ei23 := Own.eqI nw23 (Term.int_eval (101))
  have Sv : Sta s s.heap "com/example/lorac/lorac/Edit$Operation" "$VALUES" "[Lcom/example/lorac/lorac/Edit$Operation;" (.ref ad1) := Sta.start evad1 (Or.inr ⟨(hW 43 _ rfl), (hW 49 _ rfl)⟩)
  obtain ⟨kcad1, AVad1⟩ := Own.arvOf (dv := .null) (vs := [(.ref ad2), (.ref ad3)]) hfit evad1 nw0 nw2 (by decide) rfl (by
      intro i hi
      match i, hi with
      | 0, _ => exact ei4
      | 1, _ => exact ei6)
  have Sl : Sta s s.heap "com/example/lorac/lorac/Edit$Operation" "ADD" "Lcom/example/lorac/lorac/Edit$Operation;" (.ref ad2) := Sta.start evad2 (Or.inr ⟨(hW 43 _ rfl), (hW 57 _ rfl)⟩)
  have Sn : Sta s s.heap "com/example/lorac/lorac/Edit$Operation" "DELETE" "Lcom/example/lorac/lorac/Edit$Operation;" (.ref ad3) := Sta.start evad3 (Or.inr ⟨(hW 43 _ rfl), (hW 58 _ rfl)⟩)
  have Fkl : Fld s s.heap ad2 "com/example/lorac/lorac/Edit$Operation" "word" "Ljava/lang/String;" (.ref ad4) := Fld.start ((fld_at evad2).symm.trans evad4)
  have Fkn : Fld s s.heap ad3 "com/example/lorac/lorac/Edit$Operation" "word" "Ljava/lang/String;" (.ref ad6) := Fld.start ((fld_at evad3).symm.trans evad6)
  have STad4 : Own.Str s s.heap ad4 ad5 [97, 100, 100] := Own.strOf hfit evad4 EXad4 ei8 evad5 nw9 nw10 (by decide) (by decide) (by decide) (by
      intro i hi
      match i, hi with
      | 0, _ => exact ei15
      | 1, _ => exact ei16
      | 2, _ => exact ei17)
  have STad6 : Own.Str s s.heap ad6 ad7 [100, 101, 108, 101, 116, 101] := Own.strOf hfit evad6 EXad6 ei12 evad7 nw13 nw14 (by decide) (by decide) (by decide) (by
      intro i hi
      match i, hi with
      | 0, _ => exact ei18
      | 1, _ => exact ei19
      | 2, _ => exact ei20
      | 3, _ => exact ei21
      | 4, _ => exact ei22
      | 5, _ => exact ei23)
  have xOE := Cond.before_iff.mp (hsets _ (List.mem_of_getElem? (i := 11) rfl))
  obtain ⟨aem, evem⟩ := exa_v xOE
  have EXem := Exa.start evem xOE
  have Sem : Sta s s.heap "java/util/Optional" "EMPTY" "Ljava/util/Optional;" (.ref aem) := Sta.start evem (Or.inl (hsets _ (List.mem_of_getElem? (i := 10) rfl)))
  have evv := null_v (Cond.before_iff.mp (hsets _ (List.mem_of_getElem? (i := 12) rfl)))
  have Fem : Fld s s.heap aem "java/util/Optional" "value" "Ljava/lang/Object;" .null := Fld.start ((fld_at evem).symm.trans evv)
  have HN : own_En s ad2 ad3 ad1 ad4 ad5 ad6 ad7 aem _ := ⟨Sl, Sn, Sv, AVad1, EXad1, EXad2, EXad3, Fkl, Fkn, STad4, STad6, Sem, EXem, Fem⟩
  obtain ⟨n, o, h1, h2, h3, _, L, rfl, ⟨⟨-, rfl⟩, N⟩, -, hq⟩ := own_law l s _ HW (cw := tables_1) i0 i1 i2 HN s.heap ⟨Nat.le_refl _, fun _ _ q => q⟩ p e ha hc hk s m _ below hf ((Spec.applies_iff_loose hf).mp happ).1 ⟨rfl, State.Warmed39.refl s, rfl, hCH⟩ trivial
  exact ⟨n, _, h1, h2, h3, hpost _ _ _ _ _ _ ⟨Cond.after_iff.mpr rfl, Cond.after_iff.mpr (eq_i res_at (Term.int_eval (1)) rfl), trivial⟩ ⟨hq.1, hq.2.1, hq.2.2.1, hq.2.2.2.sift fun y hy => Or.inr (N y hy)⟩⟩
theorem main_1_1 : Claimed_1_1 := own_comes fun _ _ _ _ _ _ h hF => ⟨h.1, hF⟩
theorem main_1_2 : Claimed_1_2 := own_comes fun _ _ _ _ _ _ h hF => ⟨h.2.1, hF⟩
end Jvm.Pilot.@@N@@
namespace Jvm.Pilot.@@N@@
open Jvm Jvm.ClassFile Sem Op Lib Jvm.Free Jvm.Stand Jvm.Pilot.@@N@@.Jvm.D
/-! MADE BY PROGRAM (witnessworld.py) out of the Statement's table words and the real class files: 24 classes; the members and pool entries that the words name. The judged class is class 1, her method 1. -/
namespace start1
open Jvm.ClassFile
def u (s : String) : CpInfo := .utf8 (stringToUtf16 s)
/-- a pool by its gaps: so many unusable entries, then the entry; so many at the end -/
def gap : Nat → List CpInfo → List CpInfo
  | 0, r => r
  | n + 1, r => .unusable :: gap n r
def poolList (es : List (Nat × CpInfo)) (last : Nat) : List CpInfo := es.foldr (fun e r => gap e.1 (e.2 :: r)) (gap last [])
def pool (es : List (Nat × CpInfo)) (last : Nat) : Array CpInfo := ⟨poolList es last⟩
def fileOf (pool : Array CpInfo) (this : Nat) (attrs : Array Attribute := #[]) (ms : Array MethodInfo := #[]) (fl : Nat := 33) (sup : Nat := 0) (ifs : Array Nat := #[]) (fds : Array FieldInfo := #[]) : ClassFile where
  minorVersion := 0
  majorVersion := 65
  constantPool := pool
  accessFlags := fl
  thisClass := this
  superClass := sup
  interfaces := ifs
  fields := fds
  methods := ms
  attributes := attrs
def plain (name : String) (sup : Option ClassId) : Class where
  name := name
  kind := .ordinary
  loader := none
  accessFlags := 33
  super := sup
  interfaces := #[]
  cf := none
  fields := #[]
  methods := #[]
  instanceTypes := #[]
  staticTypes := #[]
  resolved := #[]
  callSites := []
  init := .initialized
  statics := none
  mirror := none

def pool0 : Array CpInfo := pool [(5, u "<init>"), (0, u "()V"), (1, .class_ 10), (1, u "java/lang/Object"), (85, u "clone"), (0, u "()Ljava/lang/Object;")] 26

def k0c0 : Code := { maxStack := 0, maxLocals := 1, code := object_method_1_code, exceptionTable := #[], attributes := #[] }
def k0m0 : Method := { name := "<init>", desc := "()V", sig := { parameters := [], returnType := none }, accessFlags := 1, code := some k0c0 }
def k0m1 : Method := { name := "clone", desc := "()Ljava/lang/Object;", sig := { parameters := [], returnType := some (.object "java/lang/Object") }, accessFlags := 260, code := none }
/-- java/lang/Object -/
def k0 : Class := { plain "java/lang/Object" none with
  accessFlags := 33
  interfaces := #[]
  cf := some (fileOf pool0 8 #[] #[{ accessFlags := 1, nameIndex := 5, descriptorIndex := 6, attributes := #[] }, { accessFlags := 260, nameIndex := 96, descriptorIndex := 97, attributes := #[] }] 33 0 #[] #[])
  fields := #[]
  methods := #[k0m0, k0m1]
  instanceTypes := #[]
  staticTypes := #[]
  resolved := Array.replicate 124 none
  statics := none }

def pool1 : Array CpInfo := pool [(2, .class_ 4), (1, u "java/lang/Object"), (0, u "<init>"), (0, u "()V"), (0, .methodref 8 9), (0, .class_ 10), (0, .nameAndType 11 12), (0, u "com/example/lorac/lorac/OperationNamedPinLaw"), (0, u "pick"), (0, u "(IIJI)C"), (0, .methodref 8 14), (0, .nameAndType 15 16), (0, u "str"), (0, u "([CI)Ljava/lang/String;"), (0, .fieldref 18 19), (0, .class_ 20), (0, .nameAndType 21 22), (0, u "com/example/lorac/lorac/Edit$Operation"), (0, u "ADD"), (0, u "Lcom/example/lorac/lorac/Edit$Operation;"), (0, .fieldref 18 24), (0, .nameAndType 25 22), (0, u "DELETE"), (0, .methodref 18 27), (0, .nameAndType 28 29), (0, u "named"), (0, u "(Ljava/lang/String;)Ljava/util/Optional;"), (0, .methodref 31 32), (0, .class_ 33), (0, .nameAndType 34 35), (0, u "java/util/Optional"), (0, u "orElse"), (0, u "(Ljava/lang/Object;)Ljava/lang/Object;"), (0, .string 37), (0, u "delete"), (0, .methodref 39 40), (0, .class_ 41), (0, .nameAndType 42 43), (0, u "java/lang/String"), (0, u "charAt"), (0, u "(I)C"), (0, .methodref 8 45), (0, .nameAndType 46 47), (0, u "tmpl"), (0, u "(II)C"), (0, .long 255), (1, .methodref 39 51), (0, .nameAndType 5 52), (0, u "([C)V"), (2, u "law"), (0, u "(JII)Z")] 9

def k1m0 : Method := { name := "<init>", desc := "()V", sig := { parameters := [], returnType := none }, accessFlags := 1, code := none }
def k1c1 : Code := { maxStack := 7, maxLocals := 11, code := code, exceptionTable := #[], attributes := #[] }
def k1m1 : Method := { name := "law", desc := "(JII)Z", sig := { parameters := [.long, .int, .int], returnType := some .boolean }, accessFlags := 9, code := some k1c1 }
def k1c2 : Code := { maxStack := 2, maxLocals := 2, code := method_3_code, exceptionTable := #[], attributes := #[] }
def k1m2 : Method := { name := "tmpl", desc := "(II)C", sig := { parameters := [.int, .int], returnType := some .char }, accessFlags := 10, code := some k1c2 }
def k1c3 : Code := { maxStack := 4, maxLocals := 7, code := method_4_code, exceptionTable := #[], attributes := #[] }
def k1m3 : Method := { name := "pick", desc := "(IIJI)C", sig := { parameters := [.int, .int, .long, .int], returnType := some .char }, accessFlags := 10, code := some k1c3 }
def k1c4 : Code := { maxStack := 7, maxLocals := 2, code := method_5_code, exceptionTable := #[], attributes := #[] }
def k1m4 : Method := { name := "str", desc := "([CI)Ljava/lang/String;", sig := { parameters := [(.array .char), .int], returnType := some (.object "java/lang/String") }, accessFlags := 10, code := some k1c4 }
/-- com/example/lorac/lorac/OperationNamedPinLaw -/
def k1 : Class := { plain "com/example/lorac/lorac/OperationNamedPinLaw" (some 0) with
  accessFlags := 49
  interfaces := #[]
  cf := some (fileOf pool1 8 #[] #[{ accessFlags := 1, nameIndex := 5, descriptorIndex := 6, attributes := #[] }, { accessFlags := 9, nameIndex := 55, descriptorIndex := 56, attributes := #[] }, { accessFlags := 10, nameIndex := 46, descriptorIndex := 47, attributes := #[] }, { accessFlags := 10, nameIndex := 11, descriptorIndex := 12, attributes := #[] }, { accessFlags := 10, nameIndex := 15, descriptorIndex := 16, attributes := #[] }] 49 2 #[] #[])
  fields := #[]
  methods := #[k1m0, k1m1, k1m2, k1m3, k1m4]
  instanceTypes := #[]
  staticTypes := #[]
  resolved := Array.replicate 66 none
  statics := none }

def pool2 : Array CpInfo := pool [(1, .class_ 2), (0, u "java/io/Serializable"), (0, .class_ 4), (0, u "java/lang/Object")] 2

/-- java/io/Serializable -/
def k2 : Class := { plain "java/io/Serializable" (some 0) with
  accessFlags := 1537
  interfaces := #[]
  cf := some (fileOf pool2 1 #[] #[] 1537 3 #[] #[])
  fields := #[]
  methods := #[]
  instanceTypes := #[]
  staticTypes := #[]
  resolved := Array.replicate 7 none
  statics := none }

def pool3 : Array CpInfo := pool [(1, .class_ 2), (0, u "java/lang/Comparable"), (0, .class_ 4), (0, u "java/lang/Object")] 7

/-- java/lang/Comparable -/
def k3 : Class := { plain "java/lang/Comparable" (some 0) with
  accessFlags := 1537
  interfaces := #[]
  cf := some (fileOf pool3 1 #[] #[] 1537 3 #[] #[])
  fields := #[]
  methods := #[]
  instanceTypes := #[]
  staticTypes := #[]
  resolved := Array.replicate 12 none
  statics := none }

def pool4 : Array CpInfo := pool [(2, .class_ 4), (1, u "java/lang/CharSequence"), (42, .class_ 48), (0, u "java/lang/CharSequence$1CodePointIterator"), (10, .class_ 60), (0, u "java/lang/CharSequence$1CharIterator"), (5, .class_ 67), (0, u "java/lang/Object")] 63

/-- java/lang/CharSequence -/
def k4 : Class := { plain "java/lang/CharSequence" (some 0) with
  accessFlags := 1537
  interfaces := #[]
  cf := some (fileOf pool4 2 #[.nestMembers #[47, 59]] #[] 1537 66 #[] #[])
  fields := #[]
  methods := #[]
  instanceTypes := #[]
  staticTypes := #[]
  resolved := Array.replicate 131 none
  statics := none }

def pool5 : Array CpInfo := pool [(1, .class_ 2), (0, u "java/lang/constant/Constable"), (0, .class_ 4), (0, u "java/lang/Object")] 6

/-- java/lang/constant/Constable -/
def k5 : Class := { plain "java/lang/constant/Constable" (some 0) with
  accessFlags := 1537
  interfaces := #[]
  cf := some (fileOf pool5 1 #[] #[] 1537 3 #[] #[])
  fields := #[]
  methods := #[]
  instanceTypes := #[]
  staticTypes := #[]
  resolved := Array.replicate 11 none
  statics := none }

def pool6 : Array CpInfo := pool [(1, .class_ 2), (0, u "java/lang/constant/ConstantDesc"), (0, .class_ 4), (0, u "java/lang/Object")] 32

/-- java/lang/constant/ConstantDesc -/
def k6 : Class := { plain "java/lang/constant/ConstantDesc" (some 0) with
  accessFlags := 1537
  interfaces := #[]
  cf := some (fileOf pool6 1 #[] #[] 1537 3 #[] #[])
  fields := #[]
  methods := #[]
  instanceTypes := #[]
  staticTypes := #[]
  resolved := Array.replicate 37 none
  statics := none }

def pool7 : Array CpInfo := pool [(1, .methodref 2 3), (0, .class_ 4), (0, .nameAndType 5 6), (0, u "java/lang/Object"), (0, u "<init>"), (0, u "()V"), (0, .string 8), (0, u ""), (0, .fieldref 10 11), (0, .class_ 12), (0, .nameAndType 13 14), (0, u "java/lang/String"), (0, u "value"), (0, u "[B"), (0, .fieldref 10 16), (0, .nameAndType 17 18), (0, u "coder"), (0, u "B"), (2, u "hash"), (0, u "I"), (2, u "hashIsZero"), (0, u "Z"), (0, .methodref 10 28), (0, .nameAndType 5 29), (0, u "([CIILjava/lang/Void;)V"), (8, .fieldref 10 39), (0, .nameAndType 40 26), (0, u "COMPACT_STRINGS"), (1, .class_ 44), (1, u "java/lang/StringUTF16"), (0, u "compress"), (1, .methodref 42 48), (0, .nameAndType 49 50), (0, u "coderFromArrayLen"), (0, u "([BI)B"), (56, .class_ 109), (1, u "java/lang/StringLatin1"), (32, u "()Z"), (34, .methodref 42 178), (0, .nameAndType 45 179), (0, u "([CII)[B"), (183, u "([BI)C"), (27, u "(II)V"), (35, u "(I)C"), (64, .methodref 10 493), (0, .nameAndType 494 142), (0, u "isLatin1"), (0, .methodref 107 496), (0, .nameAndType 497 363), (0, u "charAt"), (3, u "checkIndex"), (39, .methodref 107 542), (0, .nameAndType 543 544), (0, u "equals"), (0, u "([B[B)Z"), (28, u "(Ljava/lang/Object;)Z"), (1, .class_ 576), (0, u "java/lang/CharSequence"), (22, u "CASE_INSENSITIVE_ORDER"), (0, u "Ljava/util/Comparator;"), (409, u "([C)V"), (42, .fieldref 1054 1055), (0, .class_ 1056), (0, .nameAndType 1057 1058), (0, u "jdk/internal/util/Preconditions"), (0, u "SIOOBE_FORMATTER"), (0, u "Ljava/util/function/BiFunction;"), (0, .methodref 1054 1060), (0, .nameAndType 501 1061), (0, u "(IILjava/util/function/BiFunction;)I"), (39, u "serialPersistentFields"), (0, u "[Ljava/io/ObjectStreamField;"), (0, .class_ 1104), (0, u "java/lang/String$CaseInsensitiveComparator"), (1, .class_ 1107), (0, u "java/io/Serializable"), (0, .class_ 1109), (0, u "java/lang/Comparable"), (0, .class_ 1111), (0, u "java/lang/constant/Constable"), (0, .class_ 1113), (0, u "java/lang/constant/ConstantDesc"), (2, u "serialVersionUID"), (0, u "J"), (3, u "REPL"), (0, u "C"), (2, u "LATIN1"), (1, u "UTF16")] 323

def k7m0 : Method := { name := "<init>", desc := "()V", sig := { parameters := [], returnType := none }, accessFlags := 1, code := none }
def k7c1 : Code := { maxStack := 5, maxLocals := 2, code := jdk_42_method_3_code, exceptionTable := #[], attributes := #[] }
def k7m1 : Method := { name := "<init>", desc := "([C)V", sig := { parameters := [(.array .char)], returnType := none }, accessFlags := 1, code := some k7c1 }
def k7c2 : Code := { maxStack := 2, maxLocals := 2, code := jdk_42_method_56_code, exceptionTable := #[], attributes := #[] }
def k7m2 : Method := { name := "charAt", desc := "(I)C", sig := { parameters := [.int], returnType := some .char }, accessFlags := 1, code := some k7c2 }
def k7c3 : Code := { maxStack := 2, maxLocals := 3, code := jdk_42_method_66_code, exceptionTable := #[], attributes := #[] }
def k7m3 : Method := { name := "equals", desc := "(Ljava/lang/Object;)Z", sig := { parameters := [(.object "java/lang/Object")], returnType := some .boolean }, accessFlags := 1, code := some k7c3 }
def k7c4 : Code := { maxStack := 4, maxLocals := 6, code := jdk_42_method_149_code, exceptionTable := #[], attributes := #[] }
def k7m4 : Method := { name := "<init>", desc := "([CIILjava/lang/Void;)V", sig := { parameters := [(.array .char), .int, .int, (.object "java/lang/Void")], returnType := none }, accessFlags := 2, code := some k7c4 }
def k7c5 : Code := { maxStack := 1, maxLocals := 1, code := jdk_42_method_154_code, exceptionTable := #[], attributes := #[] }
def k7m5 : Method := { name := "isLatin1", desc := "()Z", sig := { parameters := [], returnType := some .boolean }, accessFlags := 0, code := some k7c5 }
def k7c6 : Code := { maxStack := 3, maxLocals := 2, code := jdk_42_method_155_code, exceptionTable := #[], attributes := #[] }
def k7m6 : Method := { name := "checkIndex", desc := "(II)V", sig := { parameters := [.int, .int], returnType := none }, accessFlags := 8, code := some k7c6 }
/-- java/lang/String -/
def k7 : Class := { plain "java/lang/String" (some 0) with
  accessFlags := 49
  interfaces := #[2, 3, 4, 5, 6]
  cf := some (fileOf pool7 10 #[.nestMembers #[1103]] #[{ accessFlags := 1, nameIndex := 5, descriptorIndex := 6, attributes := #[] }, { accessFlags := 1, nameIndex := 5, descriptorIndex := 1010, attributes := #[] }, { accessFlags := 1, nameIndex := 497, descriptorIndex := 427, attributes := #[] }, { accessFlags := 1, nameIndex := 543, descriptorIndex := 573, attributes := #[] }, { accessFlags := 2, nameIndex := 5, descriptorIndex := 29, attributes := #[] }, { accessFlags := 0, nameIndex := 494, descriptorIndex := 142, attributes := #[] }, { accessFlags := 8, nameIndex := 501, descriptorIndex := 391, attributes := #[] }] 49 2 #[1106, 1108, 575, 1110, 1112] #[{ accessFlags := 18, nameIndex := 13, descriptorIndex := 14, attributes := #[] }, { accessFlags := 18, nameIndex := 17, descriptorIndex := 18, attributes := #[] }, { accessFlags := 2, nameIndex := 21, descriptorIndex := 22, attributes := #[] }, { accessFlags := 2, nameIndex := 25, descriptorIndex := 26, attributes := #[] }, { accessFlags := 26, nameIndex := 1116, descriptorIndex := 1117, attributes := #[] }, { accessFlags := 24, nameIndex := 40, descriptorIndex := 26, attributes := #[] }, { accessFlags := 26, nameIndex := 1101, descriptorIndex := 1102, attributes := #[] }, { accessFlags := 26, nameIndex := 1121, descriptorIndex := 1122, attributes := #[] }, { accessFlags := 25, nameIndex := 599, descriptorIndex := 600, attributes := #[] }, { accessFlags := 24, nameIndex := 1125, descriptorIndex := 18, attributes := #[] }, { accessFlags := 24, nameIndex := 1127, descriptorIndex := 18, attributes := #[] }])
  fields := #[{ name := "value", type := (.array .byte), accessFlags := 18, slot := 0, constantValue := 0 }, { name := "coder", type := .byte, accessFlags := 18, slot := 1, constantValue := 0 }, { name := "hash", type := .int, accessFlags := 2, slot := 2, constantValue := 0 }, { name := "hashIsZero", type := .boolean, accessFlags := 2, slot := 3, constantValue := 0 }, { name := "serialVersionUID", type := .long, accessFlags := 26, slot := 0, constantValue := 0 }, { name := "COMPACT_STRINGS", type := .boolean, accessFlags := 24, slot := 1, constantValue := 0 }, { name := "serialPersistentFields", type := (.array (.object "java/io/ObjectStreamField")), accessFlags := 26, slot := 2, constantValue := 0 }, { name := "REPL", type := .char, accessFlags := 26, slot := 3, constantValue := 0 }, { name := "CASE_INSENSITIVE_ORDER", type := (.object "java/util/Comparator"), accessFlags := 25, slot := 4, constantValue := 0 }, { name := "LATIN1", type := .byte, accessFlags := 24, slot := 5, constantValue := 0 }, { name := "UTF16", type := .byte, accessFlags := 24, slot := 6, constantValue := 0 }]
  methods := #[k7m0, k7m1, k7m2, k7m3, k7m4, k7m5, k7m6]
  instanceTypes := #[(.array .byte), .byte, .int, .boolean]
  staticTypes := #[.long, .boolean, (.array (.object "java/io/ObjectStreamField")), .char, (.object "java/util/Comparator"), .byte, .byte]
  resolved := Array.replicate 1451 none
  statics := some 0 }

def pool8 : Array CpInfo := pool [(6, .class_ 8), (1, u "java/lang/Object"), (0, u "<init>"), (0, u "()V"), (1, .class_ 14), (1, u "java/lang/StringUTF16"), (31, u "$assertionsDisabled"), (0, u "Z"), (13, u "HI_BYTE_SHIFT"), (0, u "I"), (2, u "LO_BYTE_SHIFT"), (49, .methodref 12 116), (0, .nameAndType 117 118), (0, u "compress"), (0, u "([CI[BII)I"), (3, u "([CII)[B"), (138, u "coderFromArrayLen"), (0, u "([BI)B"), (106, .class_ 371), (1, u "java/lang/StringUTF16$LinesSpliterator"), (58, u "MAX_LENGTH"), (196, .class_ 628), (0, u "java/lang/StringUTF16$CodePointsSpliterator"), (0, .class_ 630), (0, u "java/lang/StringUTF16$CharsSpliterator")] 4

def k8m0 : Method := { name := "<init>", desc := "()V", sig := { parameters := [], returnType := none }, accessFlags := 0, code := none }
def k8c1 : Code := { maxStack := 2, maxLocals := 2, code := jdk_52_method_15_code, exceptionTable := #[], attributes := #[] }
def k8m1 : Method := { name := "coderFromArrayLen", desc := "([BI)B", sig := { parameters := [(.array .byte), .int], returnType := some .byte }, accessFlags := 8, code := some k8c1 }
def k8c2 : Code := { maxStack := 5, maxLocals := 6, code := jdk_52_method_16_code, exceptionTable := #[], attributes := #[] }
def k8m2 : Method := { name := "compress", desc := "([CII)[B", sig := { parameters := [(.array .char), .int, .int], returnType := some (.array .byte) }, accessFlags := 9, code := some k8c2 }
def k8c3 : Code := { maxStack := 3, maxLocals := 7, code := jdk_52_method_21_code, exceptionTable := #[], attributes := #[] }
def k8m3 : Method := { name := "compress", desc := "([CI[BII)I", sig := { parameters := [(.array .char), .int, (.array .byte), .int, .int], returnType := some .int }, accessFlags := 9, code := some k8c3 }
/-- java/lang/StringUTF16 -/
def k8 : Class := { plain "java/lang/StringUTF16" (some 0) with
  accessFlags := 48
  interfaces := #[]
  cf := some (fileOf pool8 12 #[.nestMembers #[627, 629, 369]] #[{ accessFlags := 0, nameIndex := 9, descriptorIndex := 10, attributes := #[] }, { accessFlags := 8, nameIndex := 261, descriptorIndex := 262, attributes := #[] }, { accessFlags := 9, nameIndex := 117, descriptorIndex := 122, attributes := #[] }, { accessFlags := 9, nameIndex := 117, descriptorIndex := 118, attributes := #[] }] 48 6 #[] #[{ accessFlags := 26, nameIndex := 61, descriptorIndex := 62, attributes := #[] }, { accessFlags := 26, nameIndex := 65, descriptorIndex := 62, attributes := #[] }, { accessFlags := 24, nameIndex := 430, descriptorIndex := 62, attributes := #[] }, { accessFlags := 4120, nameIndex := 46, descriptorIndex := 47, attributes := #[] }])
  fields := #[{ name := "HI_BYTE_SHIFT", type := .int, accessFlags := 26, slot := 0, constantValue := 0 }, { name := "LO_BYTE_SHIFT", type := .int, accessFlags := 26, slot := 1, constantValue := 0 }, { name := "MAX_LENGTH", type := .int, accessFlags := 24, slot := 2, constantValue := 0 }, { name := "$assertionsDisabled", type := .boolean, accessFlags := 4120, slot := 3, constantValue := 0 }]
  methods := #[k8m0, k8m1, k8m2, k8m3]
  instanceTypes := #[]
  staticTypes := #[.int, .int, .int, .boolean]
  resolved := Array.replicate 635 none
  statics := none }

def pool9 : Array CpInfo := pool [(2, .class_ 4), (1, u "java/lang/Enum"), (0, u "name"), (0, u "Ljava/lang/String;"), (2, u "ordinal"), (0, u "I"), (1, .class_ 14), (1, u "java/lang/Object"), (4, u "hash"), (86, .class_ 108), (1, u "java/lang/Enum$EnumDesc"), (2, .class_ 112), (0, u "java/lang/constant/Constable"), (0, .class_ 114), (0, u "java/lang/Comparable"), (0, .class_ 116), (0, u "java/io/Serializable")] 87

/-- java/lang/Enum -/
def k9 : Class := { plain "java/lang/Enum" (some 0) with
  accessFlags := 1057
  interfaces := #[5, 3, 2]
  cf := some (fileOf pool9 2 #[.nestMembers #[106]] #[] 1057 12 #[111, 113, 115] #[{ accessFlags := 18, nameIndex := 5, descriptorIndex := 6, attributes := #[] }, { accessFlags := 18, nameIndex := 9, descriptorIndex := 10, attributes := #[] }, { accessFlags := 2, nameIndex := 19, descriptorIndex := 10, attributes := #[] }])
  fields := #[{ name := "name", type := (.object "java/lang/String"), accessFlags := 18, slot := 0, constantValue := 0 }, { name := "ordinal", type := .int, accessFlags := 18, slot := 1, constantValue := 0 }, { name := "hash", type := .int, accessFlags := 2, slot := 2, constantValue := 0 }]
  methods := #[]
  instanceTypes := #[(.object "java/lang/String"), .int, .int]
  staticTypes := #[]
  resolved := Array.replicate 204 none
  statics := none }

def pool10 : Array CpInfo := pool [(1, .class_ 2), (0, u "com/example/lorac/lorac/Edit$Operation"), (2, u "ADD"), (0, u "Lcom/example/lorac/lorac/Edit$Operation;"), (2, u "DELETE"), (0, .fieldref 1 11), (0, .nameAndType 12 13), (0, u "$VALUES"), (0, u "[Lcom/example/lorac/lorac/Edit$Operation;"), (0, .methodref 15 16), (0, .class_ 13), (0, .nameAndType 17 18), (0, u "clone"), (0, u "()Ljava/lang/Object;"), (1, .class_ 22), (1, u "java/lang/Enum"), (6, .fieldref 1 30), (0, .nameAndType 31 32), (0, u "word"), (0, u "Ljava/lang/String;"), (0, .methodref 1 34), (0, .nameAndType 35 36), (0, u "values"), (0, u "()[Lcom/example/lorac/lorac/Edit$Operation;"), (0, .methodref 38 39), (0, .class_ 40), (0, .nameAndType 41 42), (0, u "java/lang/String"), (0, u "equals"), (0, u "(Ljava/lang/Object;)Z"), (0, .methodref 44 45), (0, .class_ 46), (0, .nameAndType 47 48), (0, u "java/util/Optional"), (0, u "of"), (0, u "(Ljava/lang/Object;)Ljava/util/Optional;"), (0, .methodref 44 50), (0, .nameAndType 51 52), (0, u "empty"), (0, u "()Ljava/util/Optional;"), (18, u "named"), (0, u "(Ljava/lang/String;)Ljava/util/Optional;"), (8, .class_ 82), (0, u "com/example/lorac/lorac/Edit")] 2

def k10c0 : Code := { maxStack := 1, maxLocals := 0, code := prog_5_method_1_code, exceptionTable := #[], attributes := #[] }
def k10m0 : Method := { name := "values", desc := "()[Lcom/example/lorac/lorac/Edit$Operation;", sig := { parameters := [], returnType := some (.array (.object "com/example/lorac/lorac/Edit$Operation")) }, accessFlags := 9, code := some k10c0 }
def k10c1 : Code := { maxStack := 2, maxLocals := 5, code := prog_5_method_4_code, exceptionTable := #[], attributes := #[] }
def k10m1 : Method := { name := "named", desc := "(Ljava/lang/String;)Ljava/util/Optional;", sig := { parameters := [(.object "java/lang/String")], returnType := some (.object "java/util/Optional") }, accessFlags := 8, code := some k10c1 }
/-- com/example/lorac/lorac/Edit$Operation -/
def k10 : Class := { plain "com/example/lorac/lorac/Edit$Operation" (some 9) with
  accessFlags := 16432
  interfaces := #[]
  cf := some (fileOf pool10 1 #[.nestHost 81] #[{ accessFlags := 9, nameIndex := 35, descriptorIndex := 36, attributes := #[] }, { accessFlags := 8, nameIndex := 71, descriptorIndex := 72, attributes := #[] }] 16432 20 #[] #[{ accessFlags := 16409, nameIndex := 5, descriptorIndex := 6, attributes := #[] }, { accessFlags := 16409, nameIndex := 9, descriptorIndex := 6, attributes := #[] }, { accessFlags := 16, nameIndex := 31, descriptorIndex := 32, attributes := #[] }, { accessFlags := 4122, nameIndex := 12, descriptorIndex := 13, attributes := #[] }])
  fields := #[{ name := "ADD", type := (.object "com/example/lorac/lorac/Edit$Operation"), accessFlags := 16409, slot := 0, constantValue := 0 }, { name := "DELETE", type := (.object "com/example/lorac/lorac/Edit$Operation"), accessFlags := 16409, slot := 1, constantValue := 0 }, { name := "word", type := (.object "java/lang/String"), accessFlags := 16, slot := 3, constantValue := 0 }, { name := "$VALUES", type := (.array (.object "com/example/lorac/lorac/Edit$Operation")), accessFlags := 4122, slot := 2, constantValue := 0 }]
  methods := #[k10m0, k10m1]
  instanceTypes := #[(.object "java/lang/String"), .int, .int, (.object "java/lang/String")]
  staticTypes := #[(.object "com/example/lorac/lorac/Edit$Operation"), (.object "com/example/lorac/lorac/Edit$Operation"), (.array (.object "com/example/lorac/lorac/Edit$Operation"))]
  resolved := Array.replicate 85 none
  statics := some 1 }

def pool11 : Array CpInfo := pool [(1, .class_ 2), (0, u "java/lang/Cloneable"), (0, .class_ 4), (0, u "java/lang/Object")] 2

/-- java/lang/Cloneable -/
def k11 : Class := { plain "java/lang/Cloneable" (some 0) with
  accessFlags := 1537
  interfaces := #[]
  cf := some (fileOf pool11 1 #[] #[] 1537 3 #[] #[])
  fields := #[]
  methods := #[]
  instanceTypes := #[]
  staticTypes := #[]
  resolved := Array.replicate 7 none
  statics := none }

def pool12 : Array CpInfo := pool [(1, .class_ 2), (0, u "java/lang/String"), (1, .class_ 6), (1, u "java/lang/Object"), (0, u "<init>"), (0, u "()V"), (0, .methodref 1 10), (0, .nameAndType 11 12), (0, u "checkIndex"), (0, u "(II)V"), (1, .class_ 16), (1, u "java/lang/StringLatin1"), (36, u "([BI)C"), (67, u "$assertionsDisabled"), (0, u "Z"), (98, .class_ 223), (1, u "java/lang/StringLatin1$LinesSpliterator"), (28, u "charAt"), (28, u "equals"), (0, u "([B[B)Z"), (107, .class_ 391), (0, u "java/lang/StringLatin1$CharsSpliterator")] 3

def k12m0 : Method := { name := "<init>", desc := "()V", sig := { parameters := [], returnType := none }, accessFlags := 0, code := none }
def k12c1 : Code := { maxStack := 2, maxLocals := 2, code := jdk_43_method_2_code, exceptionTable := #[], attributes := #[] }
def k12m1 : Method := { name := "charAt", desc := "([BI)C", sig := { parameters := [(.array .byte), .int], returnType := some .char }, accessFlags := 9, code := some k12c1 }
def k12c2 : Code := { maxStack := 3, maxLocals := 3, code := jdk_43_method_13_code, exceptionTable := #[], attributes := #[] }
def k12m2 : Method := { name := "equals", desc := "([B[B)Z", sig := { parameters := [(.array .byte), (.array .byte)], returnType := some .boolean }, accessFlags := 9, code := some k12c2 }
/-- java/lang/StringLatin1 -/
def k12 : Class := { plain "java/lang/StringLatin1" (some 0) with
  accessFlags := 48
  interfaces := #[]
  cf := some (fileOf pool12 14 #[.nestMembers #[390, 221]] #[{ accessFlags := 0, nameIndex := 7, descriptorIndex := 8, attributes := #[] }, { accessFlags := 9, nameIndex := 252, descriptorIndex := 53, attributes := #[] }, { accessFlags := 9, nameIndex := 281, descriptorIndex := 282, attributes := #[] }] 48 4 #[] #[{ accessFlags := 4120, nameIndex := 121, descriptorIndex := 122, attributes := #[] }])
  fields := #[{ name := "$assertionsDisabled", type := .boolean, accessFlags := 4120, slot := 0, constantValue := 0 }]
  methods := #[k12m0, k12m1, k12m2]
  instanceTypes := #[]
  staticTypes := #[.boolean]
  resolved := Array.replicate 395 none
  statics := none }

def pool13 : Array CpInfo := pool [(1, .fieldref 2 3), (0, .class_ 4), (0, .nameAndType 5 6), (0, u "java/util/Optional"), (0, u "EMPTY"), (0, u "Ljava/util/Optional;"), (0, .methodref 8 9), (0, .class_ 10), (0, .nameAndType 11 12), (0, u "java/lang/Object"), (0, u "<init>"), (0, u "()V"), (0, .fieldref 2 14), (0, .nameAndType 15 16), (0, u "value"), (0, u "Ljava/lang/Object;"), (0, .methodref 18 19), (0, .class_ 20), (0, .nameAndType 21 22), (0, u "java/util/Objects"), (0, u "requireNonNull"), (0, u "(Ljava/lang/Object;)Ljava/lang/Object;"), (0, .methodref 2 24), (0, .nameAndType 11 25), (0, u "(Ljava/lang/Object;)V"), (29, u "empty"), (0, u "()Ljava/util/Optional;"), (8, u "(Ljava/lang/Object;)Ljava/util/Optional;"), (16, u "of"), (82, u "orElse")] 21

def k13c0 : Code := { maxStack := 1, maxLocals := 1, code := jdk_32_method_1_code, exceptionTable := #[], attributes := #[] }
def k13m0 : Method := { name := "empty", desc := "()Ljava/util/Optional;", sig := { parameters := [], returnType := some (.object "java/util/Optional") }, accessFlags := 9, code := some k13c0 }
def k13c1 : Code := { maxStack := 2, maxLocals := 2, code := jdk_32_method_2_code, exceptionTable := #[], attributes := #[] }
def k13m1 : Method := { name := "<init>", desc := "(Ljava/lang/Object;)V", sig := { parameters := [(.object "java/lang/Object")], returnType := none }, accessFlags := 2, code := some k13c1 }
def k13c2 : Code := { maxStack := 3, maxLocals := 1, code := jdk_32_method_3_code, exceptionTable := #[], attributes := #[] }
def k13m2 : Method := { name := "of", desc := "(Ljava/lang/Object;)Ljava/util/Optional;", sig := { parameters := [(.object "java/lang/Object")], returnType := some (.object "java/util/Optional") }, accessFlags := 9, code := some k13c2 }
def k13c3 : Code := { maxStack := 1, maxLocals := 2, code := jdk_32_method_15_code, exceptionTable := #[], attributes := #[] }
def k13m3 : Method := { name := "orElse", desc := "(Ljava/lang/Object;)Ljava/lang/Object;", sig := { parameters := [(.object "java/lang/Object")], returnType := some (.object "java/lang/Object") }, accessFlags := 1, code := some k13c3 }
/-- java/util/Optional -/
def k13 : Class := { plain "java/util/Optional" (some 0) with
  accessFlags := 49
  interfaces := #[]
  cf := some (fileOf pool13 2 #[] #[{ accessFlags := 9, nameIndex := 55, descriptorIndex := 56, attributes := #[] }, { accessFlags := 2, nameIndex := 11, descriptorIndex := 25, attributes := #[] }, { accessFlags := 9, nameIndex := 82, descriptorIndex := 65, attributes := #[] }, { accessFlags := 1, nameIndex := 165, descriptorIndex := 22, attributes := #[] }] 49 8 #[] #[{ accessFlags := 26, nameIndex := 5, descriptorIndex := 6, attributes := #[] }, { accessFlags := 18, nameIndex := 15, descriptorIndex := 16, attributes := #[] }])
  fields := #[{ name := "EMPTY", type := (.object "java/util/Optional"), accessFlags := 26, slot := 0, constantValue := 0 }, { name := "value", type := (.object "java/lang/Object"), accessFlags := 18, slot := 0, constantValue := 0 }]
  methods := #[k13m0, k13m1, k13m2, k13m3]
  instanceTypes := #[(.object "java/lang/Object")]
  staticTypes := #[(.object "java/util/Optional")]
  resolved := Array.replicate 187 none
  statics := some 2 }

def pool14 : Array CpInfo := pool [(2, .class_ 4), (1, u "java/lang/Object"), (0, u "<init>"), (0, u "()V"), (17, .class_ 26), (1, u "jdk/internal/util/Preconditions"), (6, u "checkIndex"), (21, .class_ 56), (0, u "jdk/internal/util/Preconditions$4"), (57, .class_ 115), (0, u "jdk/internal/util/Preconditions$1"), (7, u "SIOOBE_FORMATTER"), (0, u "Ljava/util/function/BiFunction;"), (0, .class_ 126), (0, u "jdk/internal/util/Preconditions$2"), (3, u "AIOOBE_FORMATTER"), (0, .class_ 132), (0, u "jdk/internal/util/Preconditions$3"), (3, u "IOOBE_FORMATTER"), (41, u "(IILjava/util/function/BiFunction;)I")] 15

def k14m0 : Method := { name := "<init>", desc := "()V", sig := { parameters := [], returnType := none }, accessFlags := 1, code := none }
def k14c1 : Code := { maxStack := 3, maxLocals := 3, code := jdk_41_method_11_code, exceptionTable := #[], attributes := #[] }
def k14m1 : Method := { name := "checkIndex", desc := "(IILjava/util/function/BiFunction;)I", sig := { parameters := [.int, .int, (.object "java/util/function/BiFunction")], returnType := some .int }, accessFlags := 9, code := some k14c1 }
/-- jdk/internal/util/Preconditions -/
def k14 : Class := { plain "jdk/internal/util/Preconditions" (some 0) with
  accessFlags := 33
  interfaces := #[]
  cf := some (fileOf pool14 24 #[.nestMembers #[55, 131, 125, 114]] #[{ accessFlags := 1, nameIndex := 5, descriptorIndex := 6, attributes := #[] }, { accessFlags := 9, nameIndex := 33, descriptorIndex := 178, attributes := #[] }] 33 2 #[] #[{ accessFlags := 25, nameIndex := 123, descriptorIndex := 124, attributes := #[] }, { accessFlags := 25, nameIndex := 130, descriptorIndex := 124, attributes := #[] }, { accessFlags := 25, nameIndex := 136, descriptorIndex := 124, attributes := #[] }])
  fields := #[{ name := "SIOOBE_FORMATTER", type := (.object "java/util/function/BiFunction"), accessFlags := 25, slot := 0, constantValue := 0 }, { name := "AIOOBE_FORMATTER", type := (.object "java/util/function/BiFunction"), accessFlags := 25, slot := 1, constantValue := 0 }, { name := "IOOBE_FORMATTER", type := (.object "java/util/function/BiFunction"), accessFlags := 25, slot := 2, constantValue := 0 }]
  methods := #[k14m0, k14m1]
  instanceTypes := #[]
  staticTypes := #[(.object "java/util/function/BiFunction"), (.object "java/util/function/BiFunction"), (.object "java/util/function/BiFunction")]
  resolved := Array.replicate 194 none
  statics := some 3 }

def pool15 : Array CpInfo := pool [(2, .class_ 4), (1, u "java/lang/Object"), (0, u "<init>"), (0, u "()V"), (35, .class_ 44), (1, u "java/util/Objects"), (0, u "requireNonNull"), (0, u "(Ljava/lang/Object;)Ljava/lang/Object;")] 137

def k15m0 : Method := { name := "<init>", desc := "()V", sig := { parameters := [], returnType := none }, accessFlags := 2, code := none }
def k15c1 : Code := { maxStack := 2, maxLocals := 1, code := jdk_31_method_10_code, exceptionTable := #[], attributes := #[] }
def k15m1 : Method := { name := "requireNonNull", desc := "(Ljava/lang/Object;)Ljava/lang/Object;", sig := { parameters := [(.object "java/lang/Object")], returnType := some (.object "java/lang/Object") }, accessFlags := 9, code := some k15c1 }
/-- java/util/Objects -/
def k15 : Class := { plain "java/util/Objects" (some 0) with
  accessFlags := 49
  interfaces := #[]
  cf := some (fileOf pool15 42 #[] #[{ accessFlags := 2, nameIndex := 5, descriptorIndex := 6, attributes := #[] }, { accessFlags := 9, nameIndex := 45, descriptorIndex := 46, attributes := #[] }] 49 2 #[] #[])
  fields := #[]
  methods := #[k15m0, k15m1]
  instanceTypes := #[]
  staticTypes := #[]
  resolved := Array.replicate 184 none
  statics := none }

def pool16 : Array CpInfo := pool [(9, u "<init>"), (6, .class_ 18), (1, u "java/lang/Object"), (0, u "()V"), (1, .class_ 23), (1, u "jdk/internal/util/ArraysSupport"), (0, u "LOG2_ARRAY_LONG_INDEX_SCALE"), (0, u "I"), (2, u "U"), (0, u "Ljdk/internal/misc/Unsafe;"), (8, u "BIG_ENDIAN"), (0, u "Z"), (8, u "LOG2_BYTE_BIT_SIZE"), (4, u "LOG2_ARRAY_INT_INDEX_SCALE"), (54, u "JLA"), (0, u "Ljdk/internal/access/JavaLangAccess;"), (11, u "LOG2_ARRAY_BOOLEAN_INDEX_SCALE"), (9, u "LOG2_ARRAY_BYTE_INDEX_SCALE"), (5, u "LOG2_ARRAY_CHAR_INDEX_SCALE"), (5, u "LOG2_ARRAY_SHORT_INDEX_SCALE"), (18, u "LOG2_ARRAY_FLOAT_INDEX_SCALE"), (24, u "LOG2_ARRAY_DOUBLE_INDEX_SCALE"), (89, u "T_BOOLEAN"), (2, u "T_CHAR"), (1, u "T_FLOAT"), (1, u "T_DOUBLE"), (1, u "T_BYTE"), (1, u "T_SHORT"), (1, u "T_INT"), (1, u "T_LONG"), (1, u "SOFT_MAX_ARRAY_LENGTH")] 83

def k16m0 : Method := { name := "<init>", desc := "()V", sig := { parameters := [], returnType := none }, accessFlags := 2, code := none }
/-- jdk/internal/util/ArraysSupport -/
def k16 : Class := { plain "jdk/internal/util/ArraysSupport" (some 0) with
  accessFlags := 33
  interfaces := #[]
  cf := some (fileOf pool16 21 #[] #[{ accessFlags := 2, nameIndex := 9, descriptorIndex := 19, attributes := #[] }] 33 16 #[] #[{ accessFlags := 24, nameIndex := 28, descriptorIndex := 29, attributes := #[] }, { accessFlags := 26, nameIndex := 38, descriptorIndex := 39, attributes := #[] }, { accessFlags := 25, nameIndex := 121, descriptorIndex := 25, attributes := #[] }, { accessFlags := 25, nameIndex := 131, descriptorIndex := 25, attributes := #[] }, { accessFlags := 25, nameIndex := 137, descriptorIndex := 25, attributes := #[] }, { accessFlags := 25, nameIndex := 143, descriptorIndex := 25, attributes := #[] }, { accessFlags := 25, nameIndex := 53, descriptorIndex := 25, attributes := #[] }, { accessFlags := 25, nameIndex := 24, descriptorIndex := 25, attributes := #[] }, { accessFlags := 25, nameIndex := 162, descriptorIndex := 25, attributes := #[] }, { accessFlags := 25, nameIndex := 187, descriptorIndex := 25, attributes := #[] }, { accessFlags := 26, nameIndex := 48, descriptorIndex := 25, attributes := #[] }, { accessFlags := 25, nameIndex := 277, descriptorIndex := 25, attributes := #[] }, { accessFlags := 25, nameIndex := 280, descriptorIndex := 25, attributes := #[] }, { accessFlags := 25, nameIndex := 282, descriptorIndex := 25, attributes := #[] }, { accessFlags := 25, nameIndex := 284, descriptorIndex := 25, attributes := #[] }, { accessFlags := 25, nameIndex := 286, descriptorIndex := 25, attributes := #[] }, { accessFlags := 25, nameIndex := 288, descriptorIndex := 25, attributes := #[] }, { accessFlags := 25, nameIndex := 290, descriptorIndex := 25, attributes := #[] }, { accessFlags := 25, nameIndex := 292, descriptorIndex := 25, attributes := #[] }, { accessFlags := 26, nameIndex := 108, descriptorIndex := 109, attributes := #[] }, { accessFlags := 25, nameIndex := 294, descriptorIndex := 25, attributes := #[] }])
  fields := #[{ name := "U", type := (.object "jdk/internal/misc/Unsafe"), accessFlags := 24, slot := 0, constantValue := 0 }, { name := "BIG_ENDIAN", type := .boolean, accessFlags := 26, slot := 1, constantValue := 0 }, { name := "LOG2_ARRAY_BOOLEAN_INDEX_SCALE", type := .int, accessFlags := 25, slot := 2, constantValue := 0 }, { name := "LOG2_ARRAY_BYTE_INDEX_SCALE", type := .int, accessFlags := 25, slot := 3, constantValue := 0 }, { name := "LOG2_ARRAY_CHAR_INDEX_SCALE", type := .int, accessFlags := 25, slot := 4, constantValue := 0 }, { name := "LOG2_ARRAY_SHORT_INDEX_SCALE", type := .int, accessFlags := 25, slot := 5, constantValue := 0 }, { name := "LOG2_ARRAY_INT_INDEX_SCALE", type := .int, accessFlags := 25, slot := 6, constantValue := 0 }, { name := "LOG2_ARRAY_LONG_INDEX_SCALE", type := .int, accessFlags := 25, slot := 7, constantValue := 0 }, { name := "LOG2_ARRAY_FLOAT_INDEX_SCALE", type := .int, accessFlags := 25, slot := 8, constantValue := 0 }, { name := "LOG2_ARRAY_DOUBLE_INDEX_SCALE", type := .int, accessFlags := 25, slot := 9, constantValue := 0 }, { name := "LOG2_BYTE_BIT_SIZE", type := .int, accessFlags := 26, slot := 10, constantValue := 0 }, { name := "T_BOOLEAN", type := .int, accessFlags := 25, slot := 11, constantValue := 0 }, { name := "T_CHAR", type := .int, accessFlags := 25, slot := 12, constantValue := 0 }, { name := "T_FLOAT", type := .int, accessFlags := 25, slot := 13, constantValue := 0 }, { name := "T_DOUBLE", type := .int, accessFlags := 25, slot := 14, constantValue := 0 }, { name := "T_BYTE", type := .int, accessFlags := 25, slot := 15, constantValue := 0 }, { name := "T_SHORT", type := .int, accessFlags := 25, slot := 16, constantValue := 0 }, { name := "T_INT", type := .int, accessFlags := 25, slot := 17, constantValue := 0 }, { name := "T_LONG", type := .int, accessFlags := 25, slot := 18, constantValue := 0 }, { name := "JLA", type := (.object "jdk/internal/access/JavaLangAccess"), accessFlags := 26, slot := 19, constantValue := 0 }, { name := "SOFT_MAX_ARRAY_LENGTH", type := .int, accessFlags := 25, slot := 20, constantValue := 0 }]
  methods := #[k16m0]
  instanceTypes := #[]
  staticTypes := #[(.object "jdk/internal/misc/Unsafe"), .boolean, .int, .int, .int, .int, .int, .int, .int, .int, .int, .int, .int, .int, .int, .int, .int, .int, .int, (.object "jdk/internal/access/JavaLangAccess"), .int]
  resolved := Array.replicate 378 none
  statics := none }

/-- the primitive byte -/
def k17 : Class := { plain "byte" none with kind := .primitive 'B', accessFlags := 0x411 }
/-- [B -/
def k18 : Class := { plain "[B" (some 0) with kind := .array 17 .byte, interfaces := #[11, 2], accessFlags := 1041 }

/-- the primitive char -/
def k19 : Class := { plain "char" none with kind := .primitive 'C', accessFlags := 0x411 }
/-- [C -/
def k20 : Class := { plain "[C" (some 0) with kind := .array 19 .char, interfaces := #[11, 2], accessFlags := 1041 }

/-- the primitive int -/
def k21 : Class := { plain "int" none with kind := .primitive 'I', accessFlags := 0x411 }
/-- [I -/
def k22 : Class := { plain "[I" (some 0) with kind := .array 21 .int, interfaces := #[11, 2], accessFlags := 1041 }

/-- [Lcom/example/lorac/lorac/Edit$Operation; -/
def k23 : Class := { plain "[Lcom/example/lorac/lorac/Edit$Operation;" (some 0) with kind := .array 10 (.object "com/example/lorac/lorac/Edit$Operation"), interfaces := #[11, 2], accessFlags := 1041 }

def heap : Heap := #[{ cls := 7, slots := #[.long 0, .int 1, .null, .int 0, .null, .int 0, .int 0], vm := .statics 7 },
  { cls := 10, slots := #[.ref 5, .ref 6, .ref 4], vm := .statics 10 },
  { cls := 13, slots := #[.ref 11], vm := .statics 13 },
  { cls := 14, slots := #[.null, .null, .null], vm := .statics 14 },
  { cls := 23, slots := #[.ref 5, .ref 6], vm := .none },
  { cls := 10, slots := #[.null, .int 0, .int 0, .ref 7], vm := .none },
  { cls := 10, slots := #[.null, .int 1, .int 0, .ref 9], vm := .none },
  { cls := 7, slots := #[.ref 8, .int 0, .int 0, .int 0], vm := .none },
  { cls := 18, slots := #[.int 97, .int 100, .int 100], vm := .none },
  { cls := 7, slots := #[.ref 10, .int 0, .int 0, .int 0], vm := .none },
  { cls := 18, slots := #[.int 100, .int 101, .int 108, .int 101, .int 116, .int 101], vm := .none },
  { cls := 13, slots := #[.null], vm := .none }]
def classes : Array Class := #[k0, k1, k2, k3, k4, k5, k6, k7, k8, k9, k10, k11, k12, k13, k14, k15, k16, k17, k18, k19, k20, k21, k22, k23]
def interned : List (Array UInt16 × Addr) := []
def slotsUsed : Nat := 42
def theMethod : MethodId := ⟨1, 1⟩
def args0 : Array Value := #[.long 5, .int 1, .int 3]
def aboutOver (below : List Frame) : State where
  vm := { classes := classes, interned := interned.toArray }
  heap := heap
  slotsUsed := slotsUsed
  threads := #[{ frames := .invoking theMethod args0 :: below }]
def below0 : List Frame := [.native { method := ⟨0, 0⟩, args := #[] }]
def about1 : State := aboutOver below0
def p0 : Program := .bare "" "" ""
def e0 : Env := launch0.env 0 0 0
theorem w_frames : about1.frames = Frame.invoking theMethod args0 :: below0 := rfl
set_option maxRecDepth 65536 in
theorem w_args : argsFit about1.vm theMethod args0 = true := by decide +kernel
set_option maxRecDepth 65536 in
theorem w_heap : heapFits about1 = true := by decide +kernel
set_option maxRecDepth 65536 in
theorem w_runnable : about1.curStatus? = some .runnable := by decide +kernel
set_option maxRecDepth 65536 in
theorem w_alone : about1.alone = true := by decide +kernel
set_option maxRecDepth 65536 in
theorem w_named : about1.methodNamed? x = some theMethod := by decide +kernel
set_option maxRecDepth 65536 in
theorem w_hears : about1.hears theMethod below0 = true := by decide +kernel
set_option maxRecDepth 65536 in
theorem w_ripe : about1.ripe theMethod args0 below0 = true := by decide +kernel
theorem w_running : about1.status = .running := rfl
set_option maxRecDepth 65536 in
theorem w_room : about1.hasRoom e0.platform room_1 = true :=
  launch0.hasRoom_least _ room_1 (by decide +kernel) (by decide +kernel) (by decide +kernel) (by decide +kernel) (by decide +kernel) (by decide +kernel)
theorem allAtoms_all (ts : List Jvm.Cond) (a : Array Jvm.Value) (st : Jvm.State) : (allAtoms ts).before a st = ts.all (fun c => c.before a st) := by
  induction ts with
  | nil => rfl
  | cons c t ih =>
    show (Jvm.Cond.and c (allAtoms t)).before a st = _
    rw [Jvm.Cond.before_and, ih, List.all_cons]
def words1 : List Jvm.Cond := Jvm.Cond.code x code maxLocals ret :: tables_1
/-- a 'code' word, met by the world's own term for the bytes: nothing is compared byte by byte -/
theorem code_word {y : MethodName} {bytes : ByteArray} {mx : Nat} {rt : Option FieldType} {a : Array Value} {s : State} {m : MethodId} {meth : Method} {c : Code} (h1 : s.methodNamed? y = some m) (h2 : s.vm.method? m = some meth) (h3 : meth.code = some c) (h4 : c.code = bytes)
    (h5 : (c.maxLocals == mx && c.exceptionTable.isEmpty && decide (c.maxStack ≤ mostOperands) && decide (meth.sig.returnType = rt) && !meth.locks && decide (parseMethodDescriptor y.desc = some meth.sig)) = true) : (Jvm.Cond.code y bytes mx rt).before a s = true := by
  simp only [Bool.and_eq_true, beq_iff_eq, Bool.not_eq_true', decide_eq_true_eq] at h5
  obtain ⟨⟨⟨⟨⟨g1, g2⟩, g3⟩, g4⟩, g5⟩, g6⟩ := h5
  simp [Cond.before, Cond.holds, Cond.value, h1, h2, h3, h4, g1, g2, g3, g4, g5, g6]
def isCode : Jvm.Cond → Bool
  | .code _ _ _ _ => true
  | _ => false
theorem all_split {L : List Jvm.Cond} {P : Jvm.Cond → Bool} (h1 : L.all (fun c => isCode c || P c) = true) (h2 : ∀ c ∈ L.filter isCode, P c = true) : L.all P = true := by
  refine List.all_eq_true.mpr fun c hc => ?_
  have h := List.all_eq_true.mp h1 c hc
  rcases Bool.eq_false_or_eq_true (isCode c) with hi | hi
  · exact h2 c (List.mem_filter.mpr ⟨hc, hi⟩)
  · simpa [hi] using h
set_option maxRecDepth 65536 in
theorem w_c0 : (Jvm.Cond.code x code maxLocals ret).before args0 about1 = true := code_word (m := ⟨1, 1⟩) (meth := k1m1) (c := k1c1) (by decide +kernel) rfl rfl rfl (by decide +kernel)
set_option maxRecDepth 65536 in
theorem w_c1 : (Jvm.Cond.code ({ cls := "com/example/lorac/lorac/OperationNamedPinLaw", name := "pick", desc := "(IIJI)C" } : Jvm.MethodName) method_4_code (7 : Nat) (Option.some Jvm.ClassFile.FieldType.char)).before args0 about1 = true := code_word (m := ⟨1, 3⟩) (meth := k1m3) (c := k1c3) (by decide +kernel) rfl rfl rfl (by decide +kernel)
set_option maxRecDepth 65536 in
theorem w_c2 : (Jvm.Cond.code ({ cls := "com/example/lorac/lorac/OperationNamedPinLaw", name := "tmpl", desc := "(II)C" } : Jvm.MethodName) method_3_code (2 : Nat) (Option.some Jvm.ClassFile.FieldType.char)).before args0 about1 = true := code_word (m := ⟨1, 2⟩) (meth := k1m2) (c := k1c2) (by decide +kernel) rfl rfl rfl (by decide +kernel)
set_option maxRecDepth 65536 in
theorem w_c3 : (Jvm.Cond.code ({ cls := "com/example/lorac/lorac/OperationNamedPinLaw", name := "str", desc := "([CI)Ljava/lang/String;" } : Jvm.MethodName) method_5_code (2 : Nat) (Option.some (Jvm.ClassFile.FieldType.object "java/lang/String"))).before args0 about1 = true := code_word (m := ⟨1, 4⟩) (meth := k1m4) (c := k1c4) (by decide +kernel) rfl rfl rfl (by decide +kernel)
set_option maxRecDepth 65536 in
theorem w_c4 : (Jvm.Cond.code ({ cls := "java/lang/String", name := "<init>", desc := "([C)V" } : Jvm.MethodName) jdk_42_method_3_code (2 : Nat) (Option.none : Option Jvm.ClassFile.FieldType)).before args0 about1 = true := code_word (m := ⟨7, 1⟩) (meth := k7m1) (c := k7c1) (by decide +kernel) rfl rfl rfl (by decide +kernel)
set_option maxRecDepth 65536 in
theorem w_c5 : (Jvm.Cond.code ({ cls := "java/lang/String", name := "<init>", desc := "([CIILjava/lang/Void;)V" } : Jvm.MethodName) jdk_42_method_149_code (6 : Nat) (Option.none : Option Jvm.ClassFile.FieldType)).before args0 about1 = true := code_word (m := ⟨7, 4⟩) (meth := k7m4) (c := k7c4) (by decide +kernel) rfl rfl rfl (by decide +kernel)
set_option maxRecDepth 65536 in
theorem w_c6 : (Jvm.Cond.code ({ cls := "java/lang/Object", name := "<init>", desc := "()V" } : Jvm.MethodName) object_method_1_code (1 : Nat) (Option.none : Option Jvm.ClassFile.FieldType)).before args0 about1 = true := code_word (m := ⟨0, 0⟩) (meth := k0m0) (c := k0c0) (by decide +kernel) rfl rfl rfl (by decide +kernel)
set_option maxRecDepth 65536 in
theorem w_c7 : (Jvm.Cond.code ({ cls := "java/lang/StringUTF16", name := "compress", desc := "([CII)[B" } : Jvm.MethodName) jdk_52_method_16_code (6 : Nat) (Option.some (Jvm.ClassFile.FieldType.array Jvm.ClassFile.FieldType.byte))).before args0 about1 = true := code_word (m := ⟨8, 2⟩) (meth := k8m2) (c := k8c2) (by decide +kernel) rfl rfl rfl (by decide +kernel)
set_option maxRecDepth 65536 in
theorem w_c8 : (Jvm.Cond.code ({ cls := "java/lang/StringUTF16", name := "compress", desc := "([CI[BII)I" } : Jvm.MethodName) jdk_52_method_21_code (7 : Nat) (Option.some Jvm.ClassFile.FieldType.int)).before args0 about1 = true := code_word (m := ⟨8, 3⟩) (meth := k8m3) (c := k8c3) (by decide +kernel) rfl rfl rfl (by decide +kernel)
set_option maxRecDepth 65536 in
theorem w_c9 : (Jvm.Cond.code ({ cls := "java/lang/StringUTF16", name := "coderFromArrayLen", desc := "([BI)B" } : Jvm.MethodName) jdk_52_method_15_code (2 : Nat) (Option.some Jvm.ClassFile.FieldType.byte)).before args0 about1 = true := code_word (m := ⟨8, 1⟩) (meth := k8m1) (c := k8c1) (by decide +kernel) rfl rfl rfl (by decide +kernel)
set_option maxRecDepth 65536 in
theorem w_c10 : (Jvm.Cond.code ({ cls := "com/example/lorac/lorac/Edit$Operation", name := "named", desc := "(Ljava/lang/String;)Ljava/util/Optional;" } : Jvm.MethodName) prog_5_method_4_code (5 : Nat) (Option.some (Jvm.ClassFile.FieldType.object "java/util/Optional"))).before args0 about1 = true := code_word (m := ⟨10, 1⟩) (meth := k10m1) (c := k10c1) (by decide +kernel) rfl rfl rfl (by decide +kernel)
set_option maxRecDepth 65536 in
theorem w_c11 : (Jvm.Cond.code ({ cls := "com/example/lorac/lorac/Edit$Operation", name := "values", desc := "()[Lcom/example/lorac/lorac/Edit$Operation;" } : Jvm.MethodName) prog_5_method_1_code (0 : Nat) (Option.some (Jvm.ClassFile.FieldType.array (Jvm.ClassFile.FieldType.object "com/example/lorac/lorac/Edit$Operation")))).before args0 about1 = true := code_word (m := ⟨10, 0⟩) (meth := k10m0) (c := k10c0) (by decide +kernel) rfl rfl rfl (by decide +kernel)
set_option maxRecDepth 65536 in
theorem w_c12 : (Jvm.Cond.code ({ cls := "java/lang/String", name := "equals", desc := "(Ljava/lang/Object;)Z" } : Jvm.MethodName) jdk_42_method_66_code (3 : Nat) (Option.some Jvm.ClassFile.FieldType.boolean)).before args0 about1 = true := code_word (m := ⟨7, 3⟩) (meth := k7m3) (c := k7c3) (by decide +kernel) rfl rfl rfl (by decide +kernel)
set_option maxRecDepth 65536 in
theorem w_c13 : (Jvm.Cond.code ({ cls := "java/lang/StringLatin1", name := "equals", desc := "([B[B)Z" } : Jvm.MethodName) jdk_43_method_13_code (3 : Nat) (Option.some Jvm.ClassFile.FieldType.boolean)).before args0 about1 = true := code_word (m := ⟨12, 2⟩) (meth := k12m2) (c := k12c2) (by decide +kernel) rfl rfl rfl (by decide +kernel)
set_option maxRecDepth 65536 in
theorem w_c14 : (Jvm.Cond.code ({ cls := "java/util/Optional", name := "empty", desc := "()Ljava/util/Optional;" } : Jvm.MethodName) jdk_32_method_1_code (1 : Nat) (Option.some (Jvm.ClassFile.FieldType.object "java/util/Optional"))).before args0 about1 = true := code_word (m := ⟨13, 0⟩) (meth := k13m0) (c := k13c0) (by decide +kernel) rfl rfl rfl (by decide +kernel)
set_option maxRecDepth 65536 in
theorem w_c15 : (Jvm.Cond.code ({ cls := "java/util/Optional", name := "orElse", desc := "(Ljava/lang/Object;)Ljava/lang/Object;" } : Jvm.MethodName) jdk_32_method_15_code (2 : Nat) (Option.some (Jvm.ClassFile.FieldType.object "java/lang/Object"))).before args0 about1 = true := code_word (m := ⟨13, 3⟩) (meth := k13m3) (c := k13c3) (by decide +kernel) rfl rfl rfl (by decide +kernel)
set_option maxRecDepth 65536 in
theorem w_c16 : (Jvm.Cond.code ({ cls := "java/lang/String", name := "charAt", desc := "(I)C" } : Jvm.MethodName) jdk_42_method_56_code (2 : Nat) (Option.some Jvm.ClassFile.FieldType.char)).before args0 about1 = true := code_word (m := ⟨7, 2⟩) (meth := k7m2) (c := k7c2) (by decide +kernel) rfl rfl rfl (by decide +kernel)
set_option maxRecDepth 65536 in
theorem w_c17 : (Jvm.Cond.code ({ cls := "java/lang/String", name := "isLatin1", desc := "()Z" } : Jvm.MethodName) jdk_42_method_154_code (1 : Nat) (Option.some Jvm.ClassFile.FieldType.boolean)).before args0 about1 = true := code_word (m := ⟨7, 5⟩) (meth := k7m5) (c := k7c5) (by decide +kernel) rfl rfl rfl (by decide +kernel)
set_option maxRecDepth 65536 in
theorem w_c18 : (Jvm.Cond.code ({ cls := "java/lang/StringLatin1", name := "charAt", desc := "([BI)C" } : Jvm.MethodName) jdk_43_method_2_code (2 : Nat) (Option.some Jvm.ClassFile.FieldType.char)).before args0 about1 = true := code_word (m := ⟨12, 1⟩) (meth := k12m1) (c := k12c1) (by decide +kernel) rfl rfl rfl (by decide +kernel)
set_option maxRecDepth 65536 in
theorem w_c19 : (Jvm.Cond.code ({ cls := "java/lang/String", name := "checkIndex", desc := "(II)V" } : Jvm.MethodName) jdk_42_method_155_code (2 : Nat) (Option.none : Option Jvm.ClassFile.FieldType)).before args0 about1 = true := code_word (m := ⟨7, 6⟩) (meth := k7m6) (c := k7c6) (by decide +kernel) rfl rfl rfl (by decide +kernel)
set_option maxRecDepth 65536 in
theorem w_c20 : (Jvm.Cond.code ({ cls := "jdk/internal/util/Preconditions", name := "checkIndex", desc := "(IILjava/util/function/BiFunction;)I" } : Jvm.MethodName) jdk_41_method_11_code (3 : Nat) (Option.some Jvm.ClassFile.FieldType.int)).before args0 about1 = true := code_word (m := ⟨14, 1⟩) (meth := k14m1) (c := k14c1) (by decide +kernel) rfl rfl rfl (by decide +kernel)
set_option maxRecDepth 65536 in
theorem w_c21 : (Jvm.Cond.code ({ cls := "java/util/Optional", name := "of", desc := "(Ljava/lang/Object;)Ljava/util/Optional;" } : Jvm.MethodName) jdk_32_method_3_code (1 : Nat) (Option.some (Jvm.ClassFile.FieldType.object "java/util/Optional"))).before args0 about1 = true := code_word (m := ⟨13, 2⟩) (meth := k13m2) (c := k13c2) (by decide +kernel) rfl rfl rfl (by decide +kernel)
set_option maxRecDepth 65536 in
theorem w_c22 : (Jvm.Cond.code ({ cls := "java/util/Objects", name := "requireNonNull", desc := "(Ljava/lang/Object;)Ljava/lang/Object;" } : Jvm.MethodName) jdk_31_method_10_code (1 : Nat) (Option.some (Jvm.ClassFile.FieldType.object "java/lang/Object"))).before args0 about1 = true := code_word (m := ⟨15, 1⟩) (meth := k15m1) (c := k15c1) (by decide +kernel) rfl rfl rfl (by decide +kernel)
set_option maxRecDepth 65536 in
theorem w_c23 : (Jvm.Cond.code ({ cls := "java/util/Optional", name := "<init>", desc := "(Ljava/lang/Object;)V" } : Jvm.MethodName) jdk_32_method_2_code (2 : Nat) (Option.none : Option Jvm.ClassFile.FieldType)).before args0 about1 = true := code_word (m := ⟨13, 1⟩) (meth := k13m1) (c := k13c1) (by decide +kernel) rfl rfl rfl (by decide +kernel)
def codes1 : List Jvm.Cond := [Jvm.Cond.code x code maxLocals ret, Jvm.Cond.code ({ cls := "com/example/lorac/lorac/OperationNamedPinLaw", name := "pick", desc := "(IIJI)C" } : Jvm.MethodName) method_4_code (7 : Nat) (Option.some Jvm.ClassFile.FieldType.char), Jvm.Cond.code ({ cls := "com/example/lorac/lorac/OperationNamedPinLaw", name := "tmpl", desc := "(II)C" } : Jvm.MethodName) method_3_code (2 : Nat) (Option.some Jvm.ClassFile.FieldType.char), Jvm.Cond.code ({ cls := "com/example/lorac/lorac/OperationNamedPinLaw", name := "str", desc := "([CI)Ljava/lang/String;" } : Jvm.MethodName) method_5_code (2 : Nat) (Option.some (Jvm.ClassFile.FieldType.object "java/lang/String")), Jvm.Cond.code ({ cls := "java/lang/String", name := "<init>", desc := "([C)V" } : Jvm.MethodName) jdk_42_method_3_code (2 : Nat) (Option.none : Option Jvm.ClassFile.FieldType), Jvm.Cond.code ({ cls := "java/lang/String", name := "<init>", desc := "([CIILjava/lang/Void;)V" } : Jvm.MethodName) jdk_42_method_149_code (6 : Nat) (Option.none : Option Jvm.ClassFile.FieldType), Jvm.Cond.code ({ cls := "java/lang/Object", name := "<init>", desc := "()V" } : Jvm.MethodName) object_method_1_code (1 : Nat) (Option.none : Option Jvm.ClassFile.FieldType), Jvm.Cond.code ({ cls := "java/lang/StringUTF16", name := "compress", desc := "([CII)[B" } : Jvm.MethodName) jdk_52_method_16_code (6 : Nat) (Option.some (Jvm.ClassFile.FieldType.array Jvm.ClassFile.FieldType.byte)), Jvm.Cond.code ({ cls := "java/lang/StringUTF16", name := "compress", desc := "([CI[BII)I" } : Jvm.MethodName) jdk_52_method_21_code (7 : Nat) (Option.some Jvm.ClassFile.FieldType.int), Jvm.Cond.code ({ cls := "java/lang/StringUTF16", name := "coderFromArrayLen", desc := "([BI)B" } : Jvm.MethodName) jdk_52_method_15_code (2 : Nat) (Option.some Jvm.ClassFile.FieldType.byte), Jvm.Cond.code ({ cls := "com/example/lorac/lorac/Edit$Operation", name := "named", desc := "(Ljava/lang/String;)Ljava/util/Optional;" } : Jvm.MethodName) prog_5_method_4_code (5 : Nat) (Option.some (Jvm.ClassFile.FieldType.object "java/util/Optional")), Jvm.Cond.code ({ cls := "com/example/lorac/lorac/Edit$Operation", name := "values", desc := "()[Lcom/example/lorac/lorac/Edit$Operation;" } : Jvm.MethodName) prog_5_method_1_code (0 : Nat) (Option.some (Jvm.ClassFile.FieldType.array (Jvm.ClassFile.FieldType.object "com/example/lorac/lorac/Edit$Operation"))), Jvm.Cond.code ({ cls := "java/lang/String", name := "equals", desc := "(Ljava/lang/Object;)Z" } : Jvm.MethodName) jdk_42_method_66_code (3 : Nat) (Option.some Jvm.ClassFile.FieldType.boolean), Jvm.Cond.code ({ cls := "java/lang/StringLatin1", name := "equals", desc := "([B[B)Z" } : Jvm.MethodName) jdk_43_method_13_code (3 : Nat) (Option.some Jvm.ClassFile.FieldType.boolean), Jvm.Cond.code ({ cls := "java/util/Optional", name := "empty", desc := "()Ljava/util/Optional;" } : Jvm.MethodName) jdk_32_method_1_code (1 : Nat) (Option.some (Jvm.ClassFile.FieldType.object "java/util/Optional")), Jvm.Cond.code ({ cls := "java/util/Optional", name := "orElse", desc := "(Ljava/lang/Object;)Ljava/lang/Object;" } : Jvm.MethodName) jdk_32_method_15_code (2 : Nat) (Option.some (Jvm.ClassFile.FieldType.object "java/lang/Object")), Jvm.Cond.code ({ cls := "java/lang/String", name := "charAt", desc := "(I)C" } : Jvm.MethodName) jdk_42_method_56_code (2 : Nat) (Option.some Jvm.ClassFile.FieldType.char), Jvm.Cond.code ({ cls := "java/lang/String", name := "isLatin1", desc := "()Z" } : Jvm.MethodName) jdk_42_method_154_code (1 : Nat) (Option.some Jvm.ClassFile.FieldType.boolean), Jvm.Cond.code ({ cls := "java/lang/StringLatin1", name := "charAt", desc := "([BI)C" } : Jvm.MethodName) jdk_43_method_2_code (2 : Nat) (Option.some Jvm.ClassFile.FieldType.char), Jvm.Cond.code ({ cls := "java/lang/String", name := "checkIndex", desc := "(II)V" } : Jvm.MethodName) jdk_42_method_155_code (2 : Nat) (Option.none : Option Jvm.ClassFile.FieldType), Jvm.Cond.code ({ cls := "jdk/internal/util/Preconditions", name := "checkIndex", desc := "(IILjava/util/function/BiFunction;)I" } : Jvm.MethodName) jdk_41_method_11_code (3 : Nat) (Option.some Jvm.ClassFile.FieldType.int), Jvm.Cond.code ({ cls := "java/util/Optional", name := "of", desc := "(Ljava/lang/Object;)Ljava/util/Optional;" } : Jvm.MethodName) jdk_32_method_3_code (1 : Nat) (Option.some (Jvm.ClassFile.FieldType.object "java/util/Optional")), Jvm.Cond.code ({ cls := "java/util/Objects", name := "requireNonNull", desc := "(Ljava/lang/Object;)Ljava/lang/Object;" } : Jvm.MethodName) jdk_31_method_10_code (1 : Nat) (Option.some (Jvm.ClassFile.FieldType.object "java/lang/Object")), Jvm.Cond.code ({ cls := "java/util/Optional", name := "<init>", desc := "(Ljava/lang/Object;)V" } : Jvm.MethodName) jdk_32_method_2_code (2 : Nat) (Option.none : Option Jvm.ClassFile.FieldType)]
set_option maxRecDepth 65536 in
theorem codes_eq : words1.filter isCode = codes1 := rfl
theorem w_codes : ∀ c ∈ words1.filter isCode, c.before args0 about1 = true := by
  rw [codes_eq]
  intro c hc
  simp only [codes1, List.mem_cons, List.not_mem_nil, or_false] at hc
  rcases hc with rfl | rfl | rfl | rfl | rfl | rfl | rfl | rfl | rfl | rfl | rfl | rfl | rfl | rfl | rfl | rfl | rfl | rfl | rfl | rfl | rfl | rfl | rfl | rfl
  · exact w_c0
  · exact w_c1
  · exact w_c2
  · exact w_c3
  · exact w_c4
  · exact w_c5
  · exact w_c6
  · exact w_c7
  · exact w_c8
  · exact w_c9
  · exact w_c10
  · exact w_c11
  · exact w_c12
  · exact w_c13
  · exact w_c14
  · exact w_c15
  · exact w_c16
  · exact w_c17
  · exact w_c18
  · exact w_c19
  · exact w_c20
  · exact w_c21
  · exact w_c22
  · exact w_c23
set_option maxRecDepth 65536 in
theorem w_t1 : (words1.take 24).all (fun c => isCode c || c.before args0 about1) = true := by decide +kernel
set_option maxRecDepth 65536 in
theorem w_t2 : ((words1.drop 24).take 24).all (fun c => isCode c || c.before args0 about1) = true := by decide +kernel
set_option maxRecDepth 65536 in
theorem w_t3 : (((words1.drop 24).drop 24).take 24).all (fun c => isCode c || c.before args0 about1) = true := by decide +kernel
set_option maxRecDepth 65536 in
theorem w_t4 : ((((words1.drop 24).drop 24).drop 24).take 24).all (fun c => isCode c || c.before args0 about1) = true := by decide +kernel
set_option maxRecDepth 65536 in
theorem w_t5 : (((((words1.drop 24).drop 24).drop 24).drop 24).take 24).all (fun c => isCode c || c.before args0 about1) = true := by decide +kernel
set_option maxRecDepth 65536 in
theorem w_t6 : (((((words1.drop 24).drop 24).drop 24).drop 24).drop 24).all (fun c => isCode c || c.before args0 about1) = true := by decide +kernel
theorem w_tables : (allAtoms (Jvm.Cond.code x code maxLocals ret :: tables_1)).before args0 about1 = true := by
  rw [allAtoms_all]
  show words1.all (fun c => c.before args0 about1) = true
  refine all_split ?_ w_codes
  rw [← List.take_append_drop 24 words1, List.all_append, w_t1, ← List.take_append_drop 24 (words1.drop 24), List.all_append, w_t2, ← List.take_append_drop 24 ((words1.drop 24).drop 24), List.all_append, w_t3, ← List.take_append_drop 24 (((words1.drop 24).drop 24).drop 24), List.all_append, w_t4, ← List.take_append_drop 24 ((((words1.drop 24).drop 24).drop 24).drop 24), List.all_append, w_t5, w_t6]
  rfl
set_option maxRecDepth 65536 in
theorem w_rest : rest_1_c.before args0 about1 = true := by decide +kernel
set_option maxRecDepth 65536 in
theorem w_case : (Jvm.Cond.and given_1 narrow_1).before args0 about1 = true := by decide +kernel
set_option maxRecDepth 65536 in
theorem w_consts : constsHeld consts_1 about1 := Jvm.Lit.constsHeldB_iff.mp (by decide +kernel)
theorem w_applies : (headSpec (Jvm.Cond.code x code maxLocals ret :: tables_1) room_1).applies x e0.platform about1 = true :=
  (Spec.applies_iff w_frames).mpr ⟨w_running, w_runnable, w_alone, w_named, w_hears, w_ripe, w_room, w_tables⟩
theorem atStart : AtStart classFile x code maxLocals ret World_1 tables_1 room_1 Calls_1 rest_1 Pre_1 launch0 p0 e0 about1 theMethod args0 below0 :=
  ⟨lists_1, trivial, launch0.admits_env _ _ _, launch0.least_env, fairChoices_fair.cas, fairChoices_fair.clock, w_frames, w_args, w_heap, w_applies, ⟨w_consts, trivial⟩, w_rest, w_case⟩
end start1
theorem witness_1 : WitnessClaimed_1 := ⟨start1.p0, start1.e0, start1.about1, start1.theMethod, start1.args0, start1.below0, start1.atStart⟩
end Jvm.Pilot.@@N@@
