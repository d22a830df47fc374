import JvmDerived
import JvmDerived.Pilot.@@N@@Statement
import JvmDerived.Pilot.@@N@@Code
set_option linter.unusedVariables false
set_option linter.unusedSimpArgs false
/- laws to paste: Road.backV, Road.lenW, Road.chN, Road.empW, Road.codOf (cut by pick.py; bodies as the Statement names them) -/
namespace Jvm.Pilot.@@N@@
namespace StrChars
open Jvm Sem ClassFile Op Lib Jvm.Stand Jvm.Free.XT Jvm.Free.ALB Jvm.Free.JM Jvm.Free
open Jvm.Lib.Cold (StaticIs)
/-- a char array whose places are chars -/
def Ch (a : Addr) (A : Cell) (U : State) : Prop := Arr .char a A U ∧ Typed .char A
theorem Ch.mv {a : Addr} {A : Cell} {U U' : State} (h : Ch a A U) (hal : U.vm.Alike U'.vm) (hh : U'.heap = U.heap) : Ch a A U' := ⟨h.1.mv hal hh, h.2⟩
theorem Ch.keep {a : Addr} {A : Cell} {U U' : State} (h : Ch a A U) (hal : U.vm.Alike U'.vm) (hk : U'.heap[a]? = some A) : Ch a A U' := ⟨h.1.keep hal hk, h.2⟩
/-- what place i of a char[]'s cell holds -/
def cv (A : Cell) (i : Nat) : Int32 := match A.slots[i]? with | some (.int x) => x | _ => 0
theorem Ch.get {a : Addr} {A : Cell} {U : State} (h : Ch a A U) {i : Nat} (hi : i < A.slots.size) : A.slots[i]? = some (.int (cv A i)) := by
  have e := Array.getElem?_eq_getElem hi
  have f := h.2 i _ e
  unfold cv; rw [e]
  generalize A.slots[i] = v at f
  cases v <;> simp [fits] at f ⊢
/-- the byte that i2b leaves of a char -/
def lo8 (x : Int32) : Int32 := x.toInt8.toInt32
theorem fits_lo8 (y : Int32) : fits .byte (.int (lo8 y)) = true := by
  have h1 := y.toInt8.le_toInt
  have h2 := y.toInt8.toInt_lt
  simp only [lo8, fits, Bool.and_eq_true, decide_eq_true_eq, Int32.le_iff_toInt_le, Int8.toInt_toInt32, show (-128 : Int32).toInt = -128 from by decide, show (127 : Int32).toInt = 127 from by decide]
  omega
/-- A' is A but that each place j of lo .. hi - 1 holds f j -/
def Laid (A A' : Cell) (lo hi : Nat) (f : Nat → Value) : Prop := A'.cls = A.cls ∧ A'.vm = A.vm ∧ A'.slots.size = A.slots.size ∧ ∀ i, A'.slots[i]? = if lo ≤ i ∧ i < hi then some (f i) else A.slots[i]?
theorem Laid.zero (A : Cell) (lo : Nat) (f : Nat → Value) : Laid A A lo (lo + 0) f := ⟨rfl, rfl, rfl, fun i => by rw [if_neg (by omega)]⟩
theorem Laid.step {A Ak : Cell} {lo k : Nat} {f : Nat → Value} {v : Value} (h : Laid A Ak lo k f) (hlo : lo ≤ k) (hk : k < Ak.slots.size) (hv : v = f k) : Laid A (Ak.setSlot k v) lo (k + 1) f := by
  refine ⟨h.1, h.2.1, by simpa [Cell.setSlot] using h.2.2.1, fun i => ?_⟩
  by_cases e : k = i
  · subst e; rw [Cell.slots_setSlot_self v hk, if_pos (by omega), hv]
  · rw [Cell.slots_setSlot_ne v e, h.2.2.2 i]
    by_cases q : lo ≤ i ∧ i < k
    · rw [if_pos q, if_pos (by omega)]
    · rw [if_neg q, if_neg (by omega)]
def U16 : String := "java/lang/StringUTF16"
namespace Cmp5
def yN : MethodName := ⟨"java/lang/StringUTF16", "compress", "([CI[BII)I"⟩
abbrev yB : ByteArray := jdk_52_method_21_code
theorem d0 : decode yB 0 = .ok (.iconst 0, 1) := by decide +kernel
theorem d1 : decode yB 1 = .ok (.istore 5, 2) := by decide +kernel
theorem d3 : decode yB 3 = .ok (.iload 5, 2) := by decide +kernel
theorem d5 : decode yB 5 = .ok (.iload 4, 2) := by decide +kernel
theorem d7 : decode yB 7 = .ok (.if_icmp (.ge) 37, 3) := by decide +kernel
theorem d10 : decode yB 10 = .ok (.aload_n 0, 1) := by decide +kernel
theorem d11 : decode yB 11 = .ok (.iload_n 1, 1) := by decide +kernel
theorem d12 : decode yB 12 = .ok (.caload, 1) := by decide +kernel
theorem d13 : decode yB 13 = .ok (.istore 6, 2) := by decide +kernel
theorem d15 : decode yB 15 = .ok (.iload 6, 2) := by decide +kernel
theorem d17 : decode yB 17 = .ok (.sipush 255, 3) := by decide +kernel
theorem d20 : decode yB 20 = .ok (.if_icmp (.le) 6, 3) := by decide +kernel
theorem d26 : decode yB 26 = .ok (.aload_n 2, 1) := by decide +kernel
theorem d27 : decode yB 27 = .ok (.iload_n 3, 1) := by decide +kernel
theorem d28 : decode yB 28 = .ok (.iload 6, 2) := by decide +kernel
theorem d30 : decode yB 30 = .ok (.i2b, 1) := by decide +kernel
theorem d31 : decode yB 31 = .ok (.bastore, 1) := by decide +kernel
theorem d32 : decode yB 32 = .ok (.iinc 1 1, 3) := by decide +kernel
theorem d35 : decode yB 35 = .ok (.iinc 3 1, 3) := by decide +kernel
theorem d38 : decode yB 38 = .ok (.iinc 5 1, 3) := by decide +kernel
theorem d41 : decode yB 41 = .ok (.goto (-38), 3) := by decide +kernel
theorem d44 : decode yB 44 = .ok (.iload 4, 2) := by decide +kernel
theorem d46 : decode yB 46 = .ok (.ireturn, 1) := by decide +kernel
def site : List Cond := []
def tab : Cond := tabOf yN yB 7 (some .int) site
def P (b : Addr) (A : Cell) (d : Addr) (B : Cell) (o q len : Nat) (args : Array Value) (s : State) : Prop := args = #[.ref b, .int (Int32.ofNat o), .ref d, .int (Int32.ofNat q), .int (Int32.ofNat len)] ∧ Ch b A s ∧ Arr .byte d B s ∧ b ≠ d ∧ o + len ≤ A.slots.size ∧ q + len ≤ B.slots.size ∧ ∀ i, i < len → ¬ 255 < cv A (o + i)
def E (b : Addr) (A : Cell) (d : Addr) (B : Cell) (o q len : Nat) (r : Option Value) (s u : State) : Prop := r = some (.int (Int32.ofNat len)) ∧ ∃ B', Put d B' s u ∧ Laid B B' q (q + len) (fun j => Value.int (lo8 (cv A (o + (j - q)))))
/-- no char of the range above 255: len; the places written hold each char's low byte -/
theorem law (l : Launch) (b : Addr) (A : Cell) (d : Addr) (B : Cell) (o q len : Nat) : Law l yN 5 5 0 0 yB 7 (some .int) site (P b A d B o q len) (E b A d B o q len) (copyLocs d q len) 0 0 := by
  refine Law.of_walk (plainFor_of_name (by decide +kernel)) (by decide +kernel) (by decide +kernel) (by decide) (fun _ _ h => by rw [h.1]; rfl) (fun _ U U' hal hh h => ⟨h.1, h.2.1.mv hal hh, h.2.2.1.mv hal hh, h.2.2.2⟩) (fun r U U' V V' h1 hal h2 h => ⟨h.1, h.2.elim fun B' q => ⟨B', q.1.mv h1 h2, q.2⟩⟩) ?_
  intro p e s m args below meth c s₁ X0 hexec hbytes hml hret hlk hnm hown hh0 W hP
  obtain ⟨rfl, hA, hB, hne, l1, l2, hp⟩ := hP
  have c1 : Steps p.tables e below (s₁.setTop (entryFrame m #[.ref b, .int (Int32.ofNat o), .ref d, .int (Int32.ofNat q), .int (Int32.ofNat len)] 7)) (s₁.setTop (mkF m 0 #[.val (.ref b), .val (.int (Int32.ofNat o)), .val (.ref d), .val (.int (Int32.ofNat q)), .val (.int (Int32.ofNat len)), .unset, .unset] [])) := entry rfl
  have hA0 := hA.1.mv X0.warmed.alike hh0
  have hB0 := hB.mv X0.warmed.alike hh0
  have a31 := hA.1.2.2.2
  have c2 : Steps p.tables e below (s₁.setTop (entryFrame m #[.ref b, .int (Int32.ofNat o), .ref d, .int (Int32.ofNat q), .int (Int32.ofNat len)] 7)) (s₁.setTop (mkF m 3 #[.val (.ref b), .val (.int (Int32.ofNat o)), .val (.ref d), .val (.int (Int32.ofNat q)), .val (.int (Int32.ofNat len)), .val (.int 0), .unset] [])) := c1.trans (by
    refine iconstV X0.here hexec rfl 0 (hb hbytes d0) (by decide) ?_
    refine XS.istore X0.here hexec rfl (hb hbytes d1) rfl rfl ?_
    exact Steps.refl _)
  have loop : ∀ (r i : Nat), i + r = len → ∀ (z : Slot), (z = .unset ∨ ∃ w, z = .val w ∧ w.category = 1) → ∀ (Tl : State) (Bk : Cell), Stand p l e { frames := 0, locals := 0, cells := 0, slots := 0 } s m #[.ref b, .int (Int32.ofNat o), .ref d, .int (Int32.ofNat q), .int (Int32.ofNat len)] below meth c Tl ([] ++ copyLocs d q i) 0 0 → Put d Bk s₁ Tl → Laid B Bk q (q + i) (fun j => Value.int (lo8 (cv A (o + (j - q))))) →
      Steps p.tables e below (s₁.setTop (entryFrame m #[.ref b, .int (Int32.ofNat o), .ref d, .int (Int32.ofNat q), .int (Int32.ofNat len)] 7)) (Tl.setTop (mkF m 3 #[.val (.ref b), .val (.int (Int32.ofNat (o + i))), .val (.ref d), .val (.int (Int32.ofNat (q + i))), .val (.int (Int32.ofNat len)), .val (.int (Int32.ofNat i)), z] [])) → ∃ (T' : State) (B' : Cell) (z' : Slot), Stand p l e { frames := 0, locals := 0, cells := 0, slots := 0 } s m #[.ref b, .int (Int32.ofNat o), .ref d, .int (Int32.ofNat q), .int (Int32.ofNat len)] below meth c T' ([] ++ copyLocs d q len) 0 0 ∧ Put d B' s₁ T' ∧ Laid B B' q (q + len) (fun j => Value.int (lo8 (cv A (o + (j - q))))) ∧
      Steps p.tables e below (s₁.setTop (entryFrame m #[.ref b, .int (Int32.ofNat o), .ref d, .int (Int32.ofNat q), .int (Int32.ofNat len)] 7)) (T'.setTop (mkF m 3 #[.val (.ref b), .val (.int (Int32.ofNat (o + len))), .val (.ref d), .val (.int (Int32.ofNat (q + len))), .val (.int (Int32.ofNat len)), .val (.int (Int32.ofNat len)), z'] [])) := by
    intro r
    induction r with
    | zero =>
      intro i hi z hz Tl Bk Xl pl fl cl
      have hil : i = len := by omega
      rw [hil] at Xl fl cl
      exact ⟨Tl, Bk, z, Xl, pl, fl, cl⟩
    | succ r ih =>
      intro i hi z hz Tl Bk Xl pl fl cl
      have all := X0.warmed.alike.symm.trans Xl.warmed.alike
      have hAl := hA0.keep all (pl.other hne hA0.1)
      have hBk := hB0.like all pl.1 fl.1 fl.2.1 fl.2.2.1
      have hlt : q + i < Bk.slots.size := by rw [fl.2.2.1]; omega
      have c3 : Steps p.tables e below (s₁.setTop (entryFrame m #[.ref b, .int (Int32.ofNat o), .ref d, .int (Int32.ofNat q), .int (Int32.ofNat len)] 7)) (Tl.setTop (mkF m 12 #[.val (.ref b), .val (.int (Int32.ofNat (o + i))), .val (.ref d), .val (.int (Int32.ofNat (q + i))), .val (.int (Int32.ofNat len)), .val (.int (Int32.ofNat i)), z] [.int (Int32.ofNat (o + i)), .ref b])) := cl.trans (by
        refine XS.iload Xl.here hexec rfl (hb hbytes d3) rfl ?_
        refine XS.iload Xl.here hexec rfl (hb hbytes d5) rfl ?_
        refine XS.icmpNo Xl.here hexec rfl (hb hbytes d7) rfl (ii_ge_f (lt32 (by omega) (by omega))) ?_
        refine XS.aloadN Xl.here hexec rfl (hb hbytes d10) rfl rfl ?_
        refine XS.iloadN Xl.here hexec rfl (hb hbytes d11) rfl ?_
        exact Steps.refl _)
      have c4 : Steps p.tables e below (s₁.setTop (entryFrame m #[.ref b, .int (Int32.ofNat o), .ref d, .int (Int32.ofNat q), .int (Int32.ofNat len)] 7)) (Tl.setTop (mkF m 13 #[.val (.ref b), .val (.int (Int32.ofNat (o + i))), .val (.ref d), .val (.int (Int32.ofNat (q + i))), .val (.int (Int32.ofNat len)), .val (.int (Int32.ofNat i)), z] [.int (cv A (o + i))])) := c3.trans (by
        refine Xl.aget hexec hAl rfl (hA.get (i := o + i) (by omega)) rfl rfl (hb hbytes d12) ?_
        exact Steps.refl _)
      have c5 : Steps p.tables e below (s₁.setTop (entryFrame m #[.ref b, .int (Int32.ofNat o), .ref d, .int (Int32.ofNat q), .int (Int32.ofNat len)] 7)) (Tl.setTop (mkF m 15 #[.val (.ref b), .val (.int (Int32.ofNat (o + i))), .val (.ref d), .val (.int (Int32.ofNat (q + i))), .val (.int (Int32.ofNat len)), .val (.int (Int32.ofNat i)), .val (.int (cv A (o + i)))] [])) := c4.trans (by
        refine XS.istoreS Xl.here hexec rfl (hb hbytes d13) rfl rfl hz ?_
        exact Steps.refl _)
      have c6 : Steps p.tables e below (s₁.setTop (entryFrame m #[.ref b, .int (Int32.ofNat o), .ref d, .int (Int32.ofNat q), .int (Int32.ofNat len)] 7)) (Tl.setTop (mkF m 31 #[.val (.ref b), .val (.int (Int32.ofNat (o + i))), .val (.ref d), .val (.int (Int32.ofNat (q + i))), .val (.int (Int32.ofNat len)), .val (.int (Int32.ofNat i)), .val (.int (cv A (o + i)))] [.int (lo8 (cv A (o + i))), .int (Int32.ofNat (q + i)), .ref d])) := c5.trans (by
        refine XS.iload Xl.here hexec rfl (hb hbytes d15) rfl ?_
        refine sipushV Xl.here hexec rfl 255 (hb hbytes d17) (by decide) ?_
        refine XS.icmpYes Xl.here hexec rfl (pc0 := 20) rfl (hb hbytes d20) rfl (ii_le_t (hp i (by omega))) (by decide) rfl ?_
        refine XS.aloadN Xl.here hexec rfl (hb hbytes d26) rfl rfl ?_
        refine XS.iloadN Xl.here hexec rfl (hb hbytes d27) rfl ?_
        refine XS.iload Xl.here hexec rfl (hb hbytes d28) rfl ?_
        refine i2b Xl.here hexec rfl (hb hbytes d30) rfl ?_
        exact Steps.refl _)
      obtain ⟨T7, X7, p7, st7⟩ := Xl.aput hexec hBk rfl hlt rfl (fits_lo8 (cv A (o + i))) (g := (mkF m 31 #[.val (.ref b), .val (.int (Int32.ofNat (o + i))), .val (.ref d), .val (.int (Int32.ofNat (q + i))), .val (.int (Int32.ofNat len)), .val (.int (Int32.ofNat i)), .val (.int (cv A (o + i)))] [.int (lo8 (cv A (o + i))), .int (Int32.ofNat (q + i)), .ref d])) rfl (rest := []) rfl (hb hbytes d31)
      have c8 : Steps p.tables e below (s₁.setTop (entryFrame m #[.ref b, .int (Int32.ofNat o), .ref d, .int (Int32.ofNat q), .int (Int32.ofNat len)] 7)) (T7.setTop (mkF m 32 #[.val (.ref b), .val (.int (Int32.ofNat (o + i))), .val (.ref d), .val (.int (Int32.ofNat (q + i))), .val (.int (Int32.ofNat len)), .val (.int (Int32.ofNat i)), .val (.int (cv A (o + i)))] [])) := c6.trans (st7 _ (Steps.refl _))
      have c9 : Steps p.tables e below (s₁.setTop (entryFrame m #[.ref b, .int (Int32.ofNat o), .ref d, .int (Int32.ofNat q), .int (Int32.ofNat len)] 7)) (T7.setTop (mkF m 3 #[.val (.ref b), .val (.int (Int32.ofNat (o + i) + 1)), .val (.ref d), .val (.int (Int32.ofNat (q + i) + 1)), .val (.int (Int32.ofNat len)), .val (.int (Int32.ofNat i + 1)), .val (.int (cv A (o + i)))] [])) := c8.trans (by
        refine iincV X7.here hexec rfl 1 (hb hbytes d32) (by decide) rfl rfl ?_
        refine iincV X7.here hexec rfl 1 (hb hbytes d35) (by decide) rfl rfl ?_
        refine iincV X7.here hexec rfl 1 (hb hbytes d38) (by decide) rfl rfl ?_
        refine XS.goto X7.here hexec rfl (pc0 := 41) rfl (hb hbytes d41) (by decide) rfl ?_
        exact Steps.refl _)
      have c10 : Steps p.tables e below (s₁.setTop (entryFrame m #[.ref b, .int (Int32.ofNat o), .ref d, .int (Int32.ofNat q), .int (Int32.ofNat len)] 7)) (T7.setTop (mkF m 3 #[.val (.ref b), .val (.int (Int32.ofNat (o + (i + 1)))), .val (.ref d), .val (.int (Int32.ofNat (q + (i + 1)))), .val (.int (Int32.ofNat len)), .val (.int (Int32.ofNat (i + 1))), .val (.int (cv A (o + i)))] [])) := by
        have := c9
        rw [succ32, succ32, succ32] at this
        exact this
      exact ih (i + 1) (by omega) _ (Or.inr ⟨_, rfl, rfl⟩) T7 _ (by rw [copyLocs_step, ← List.append_assoc]; exact X7) (pl.trans p7) (fl.step (by omega) hlt (by simp)) c10
  obtain ⟨T9, B9, z9, X9, p9, f9, g9⟩ := loop len 0 (by omega) .unset (Or.inl rfl) s₁ B (by simpa [copyLocs] using X0) ⟨hB0.1, fun _ _ => rfl, rfl⟩ (Laid.zero _ _ _) c2
  have c11 : Steps p.tables e below (s₁.setTop (entryFrame m #[.ref b, .int (Int32.ofNat o), .ref d, .int (Int32.ofNat q), .int (Int32.ofNat len)] 7)) (T9.setTop (mkF m 46 #[.val (.ref b), .val (.int (Int32.ofNat (o + len))), .val (.ref d), .val (.int (Int32.ofNat (q + len))), .val (.int (Int32.ofNat len)), .val (.int (Int32.ofNat len)), z9] [.int (Int32.ofNat len)])) := g9.trans (by
    refine XS.iload X9.here hexec rfl (hb hbytes d3) rfl ?_
    refine XS.iload X9.here hexec rfl (hb hbytes d5) rfl ?_
    refine XS.icmpYes X9.here hexec rfl (pc0 := 7) rfl (hb hbytes d7) rfl (ii_ge_t (nlt32 (by omega) (Nat.le_refl _))) (by decide) rfl ?_
    refine XS.iload X9.here hexec rfl (hb hbytes d44) rfl ?_
    exact Steps.refl _)
  exact ⟨T9, some (.int (Int32.ofNat len)), _, _, _, X9, by simp, rfl, rfl, (fun h => by cases h), ⟨rfl, B9, p9.from hh0, f9⟩, fun fs hl => c11.trans (X9.ireturnOut hexec hret rfl (Or.inl rfl) (hb hbytes d46) hl)⟩
end Cmp5
namespace Cmp3
def yN : MethodName := ⟨"java/lang/StringUTF16", "compress", "([CII)[B"⟩
abbrev yB : ByteArray := jdk_52_method_16_code
theorem d0 : decode yB 0 = .ok (.iload_n 2, 1) := by decide +kernel
theorem d1 : decode yB 1 = .ok (.newarray .byte, 2) := by decide +kernel
theorem d3 : decode yB 3 = .ok (.astore_n 3, 1) := by decide +kernel
theorem d4 : decode yB 4 = .ok (.aload_n 0, 1) := by decide +kernel
theorem d5 : decode yB 5 = .ok (.iload_n 1, 1) := by decide +kernel
theorem d6 : decode yB 6 = .ok (.aload_n 3, 1) := by decide +kernel
theorem d7 : decode yB 7 = .ok (.iconst 0, 1) := by decide +kernel
theorem d8 : decode yB 8 = .ok (.iload_n 2, 1) := by decide +kernel
theorem d9 : decode yB 9 = .ok (.invokestatic 115, 3) := by decide +kernel
theorem d12 : decode yB 12 = .ok (.istore 4, 2) := by decide +kernel
theorem d14 : decode yB 14 = .ok (.iload 4, 2) := by decide +kernel
theorem d16 : decode yB 16 = .ok (.iload_n 2, 1) := by decide +kernel
theorem d17 : decode yB 17 = .ok (.if_icmp (.eq) 40, 3) := by decide +kernel
theorem d57 : decode yB 57 = .ok (.aload_n 3, 1) := by decide +kernel
theorem d58 : decode yB 58 = .ok (.areturn, 1) := by decide +kernel
def site : List Cond := [.arrayClass .byte, Cmp5.tab] ++ staticW U16 115 Cmp5.yN
def tab : Cond := tabOf yN yB 6 (some (.array .byte)) site
def P (b : Addr) (A : Cell) (o len : Nat) (args : Array Value) (s : State) : Prop := args = #[.ref b, .int (Int32.ofNat o), .int (Int32.ofNat len)] ∧ Ch b A s ∧ o + len ≤ A.slots.size ∧ len ≤ 536870912 ∧ ∀ i, i < len → ¬ 255 < cv A (o + i)
def E (b : Addr) (A : Cell) (o len : Nat) (r : Option Value) (s u : State) : Prop := NewArr .byte "[B" len (fun j => .int (lo8 (cv A (o + j)))) r s u ∧ u.heap.size = s.heap.size + 1
/-- no char of the range above 255: a new byte[] of their low bytes -/
theorem law (l : Launch) (b : Addr) (A : Cell) (o len : Nat) : Law l yN 3 3 1 18 yB 6 (some (.array .byte)) site (P b A o len) (E b A o len) [] 1 len := by
  refine Law.of_walk (plainFor_of_name (by decide +kernel)) (by decide +kernel) (by decide +kernel) (by decide) (fun _ _ h => by rw [h.1]; rfl) (fun _ U U' hal hh h => ⟨h.1, h.2.1.mv hal hh, h.2.2⟩) (fun r U U' V V' h1 hal h2 h => ⟨NewArr.mv r U U' V V' h1 hal h2 h.1, by rw [h1, h2]; exact h.2⟩) ?_
  intro p e s m args below meth c s₁ X0 hexec hbytes hml hret hlk hnm hown hh0 W hP
  obtain ⟨rfl, hA, l1, l2, hp⟩ := hP
  have a31 := hA.1.2.2.2
  have c1 : Steps p.tables e below (s₁.setTop (entryFrame m #[.ref b, .int (Int32.ofNat o), .int (Int32.ofNat len)] 6)) (s₁.setTop (mkF m 0 #[.val (.ref b), .val (.int (Int32.ofNat o)), .val (.int (Int32.ofNat len)), .unset, .unset, .unset] [])) := entry rfl
  have c2 : Steps p.tables e below (s₁.setTop (entryFrame m #[.ref b, .int (Int32.ofNat o), .int (Int32.ofNat len)] 6)) (s₁.setTop (mkF m 1 #[.val (.ref b), .val (.int (Int32.ofNat o)), .val (.int (Int32.ofNat len)), .unset, .unset, .unset] [.int (Int32.ofNat len)])) := c1.trans (by
    refine XS.iloadN X0.here hexec rfl (hb hbytes d0) rfl ?_
    exact Steps.refl _)
  obtain ⟨T3, B3, X3, ba3, bs3, bv3, bh3, bf3, st3⟩ := X0.anew hexec (atype := .byte) (wk W (.arrayClass .byte)) rfl (by show len * 1 ≤ _; omega) (by omega) (g := (mkF m 1 #[.val (.ref b), .val (.int (Int32.ofNat o)), .val (.int (Int32.ofNat len)), .unset, .unset, .unset] [.int (Int32.ofNat len)])) rfl (hb hbytes d1) (rest := []) rfl (Nat.le_refl _) (by show 0 + len ≤ len; omega)
  rw [hh0] at ba3 st3
  have kp3 : XT.Kept s T3 := (XT.Kept.of_eq hh0).push bh3
  have hA3 := hA.keep X3.warmed.alike (kp3 _ _ hA.1.1)
  have hne : b ≠ s.heap.size := hA.1.ne
  have c4 : Steps p.tables e below (s₁.setTop (entryFrame m #[.ref b, .int (Int32.ofNat o), .int (Int32.ofNat len)] 6)) (T3.setTop (mkF m 3 #[.val (.ref b), .val (.int (Int32.ofNat o)), .val (.int (Int32.ofNat len)), .unset, .unset, .unset] [.ref s.heap.size])) := c2.trans (st3 _ (Steps.refl _))
  have c5 : Steps p.tables e below (s₁.setTop (entryFrame m #[.ref b, .int (Int32.ofNat o), .int (Int32.ofNat len)] 6)) (T3.setTop (mkF m 9 #[.val (.ref b), .val (.int (Int32.ofNat o)), .val (.int (Int32.ofNat len)), .val (.ref s.heap.size), .unset, .unset] [.int (Int32.ofNat len), .int 0, .ref s.heap.size, .int (Int32.ofNat o), .ref b])) := c4.trans (by
    refine XS.astoreN X3.here hexec rfl (hb hbytes d3) rfl rfl rfl ?_
    refine XS.aloadN X3.here hexec rfl (hb hbytes d4) rfl rfl ?_
    refine XS.iloadN X3.here hexec rfl (hb hbytes d5) rfl ?_
    refine XS.aloadN X3.here hexec rfl (hb hbytes d6) rfl rfl ?_
    refine iconstV X3.here hexec rfl 0 (hb hbytes d7) (by decide) ?_
    refine XS.iloadN X3.here hexec rfl (hb hbytes d8) rfl ?_
    exact Steps.refl _)
  obtain ⟨v6, T6, X6, E6, g6⟩ := X3.callS hexec (Cmp5.law l b A s.heap.size B3 o 0 len) hown (wks W (staticW U16 115 Cmp5.yN)) (wk W Cmp5.tab) (W := 0) (Nat.le_of_ble_eq_true rfl) (Nat.le_of_ble_eq_true rfl) (Nat.le_refl _) (by show 0 + len + 0 ≤ len; omega) (g := (mkF m 9 #[.val (.ref b), .val (.int (Int32.ofNat o)), .val (.int (Int32.ofNat len)), .val (.ref s.heap.size), .unset, .unset] [.int (Int32.ofNat len), .int (Int32.ofNat 0), .ref s.heap.size, .int (Int32.ofNat o), .ref b])) rfl (by rw [hml]; rfl) c5 (argsL := [.ref b, .int (Int32.ofNat o), .ref s.heap.size, .int (Int32.ofNat 0), .int (Int32.ofNat len)]) (rest := []) rfl rfl (by show 2 * 0 + 0 ≤ _; decide) (hb hbytes d9) (⟨rfl, hA3, ba3, hne, l1, by rw [bs3]; simp, hp⟩)
  obtain ⟨rfl, B6, p6, f6⟩ := E6
  have c7 : Steps p.tables e below (s₁.setTop (entryFrame m #[.ref b, .int (Int32.ofNat o), .int (Int32.ofNat len)] 6)) (T6.setTop (mkF m 12 #[.val (.ref b), .val (.int (Int32.ofNat o)), .val (.int (Int32.ofNat len)), .val (.ref s.heap.size), .unset, .unset] [.int (Int32.ofNat len)])) := g6
  have c8 : Steps p.tables e below (s₁.setTop (entryFrame m #[.ref b, .int (Int32.ofNat o), .int (Int32.ofNat len)] 6)) (T6.setTop (mkF m 58 #[.val (.ref b), .val (.int (Int32.ofNat o)), .val (.int (Int32.ofNat len)), .val (.ref s.heap.size), .val (.int (Int32.ofNat len)), .unset] [.ref s.heap.size])) := c7.trans (by
    refine XS.istore X6.here hexec rfl (hb hbytes d12) rfl rfl ?_
    refine XS.iload X6.here hexec rfl (hb hbytes d14) rfl ?_
    refine XS.iloadN X6.here hexec rfl (hb hbytes d16) rfl ?_
    refine XS.icmpYes X6.here hexec rfl (pc0 := 17) rfl (hb hbytes d17) rfl (ii_eq_t rfl) (by decide) rfl ?_
    refine XS.aloadN X6.here hexec rfl (hb hbytes d57) rfl rfl ?_
    exact Steps.refl _)
  have X8 := X6.wide (L' := []) (cells' := 1) (slots' := len) (fun x hx hlt => by
    simp only [List.nil_append, copyLocs, List.mem_map, List.mem_range] at hx
    obtain ⟨i, -, rfl⟩ := hx
    exact absurd hlt (Nat.lt_irrefl _)) (Nat.le_refl _) (by omega)
  exact ⟨T6, some (.ref s.heap.size), _, _, _, X8, rfl, rfl, rfl, (fun h => by cases h), ⟨⟨rfl, B6, ba3.like (X3.warmed.alike.symm.trans X6.warmed.alike) p6.1 f6.1 f6.2.1 f6.2.2.1, f6.2.1.trans bv3, by rw [X6.warmed.alike.findClass, f6.1]; exact bf3, by rw [f6.2.2.1, bs3]; simp, fun j hj => by rw [f6.2.2.2 j, if_pos (by omega)]; rfl, kp3.put p6 (Nat.le_refl _)⟩, by rw [p6.2.2, bh3, hh0]; simp⟩, fun fs hl => c8.trans (X8.areturnOut hexec rfl hret rfl (hb hbytes d58) hl)⟩
end Cmp3
namespace CodL
def yN : MethodName := ⟨"java/lang/StringUTF16", "coderFromArrayLen", "([BI)B"⟩
abbrev yB : ByteArray := jdk_52_method_15_code
theorem d0 : decode yB 0 = .ok (.iload_n 1, 1) := by decide +kernel
theorem d1 : decode yB 1 = .ok (.aload_n 0, 1) := by decide +kernel
theorem d2 : decode yB 2 = .ok (.arraylength, 1) := by decide +kernel
theorem d3 : decode yB 3 = .ok (.isub, 1) := by decide +kernel
theorem d4 : decode yB 4 = .ok (.bipush 31, 2) := by decide +kernel
theorem d6 : decode yB 6 = .ok (.iushr, 1) := by decide +kernel
theorem d7 : decode yB 7 = .ok (.i2b, 1) := by decide +kernel
theorem d8 : decode yB 8 = .ok (.ireturn, 1) := by decide +kernel
def site : List Cond := []
def tab : Cond := tabOf yN yB 2 (some .byte) site
def P (d : Addr) (B : Cell) (args : Array Value) (s : State) : Prop := args = #[.ref d, .int (Int32.ofNat B.slots.size)] ∧ Arr .byte d B s
def E (r : Option Value) (s u : State) : Prop := XT.PureE (some (.int 0)) r s u
/-- an array as long as the number of chars: LATIN1 -/
theorem law (l : Launch) (d : Addr) (B : Cell) : Law l yN 2 2 0 0 yB 2 (some .byte) site (P d B) E [] 0 0 := by
  refine Law.of_walk (plainFor_of_name (by decide +kernel)) (by decide +kernel) (by decide +kernel) (by decide) (fun _ _ h => by rw [h.1]; rfl) (fun _ U U' hal hh h => ⟨h.1, h.2.mv hal hh⟩) (fun r U U' V V' h1 hal h2 h => XT.PureE.mv r U U' V V' h1 hal h2 h) ?_
  intro p e s m args below meth c s₁ X0 hexec hbytes hml hret hlk hnm hown hh0 W hP
  obtain ⟨rfl, hB⟩ := hP
  have hB0 := hB.mv X0.warmed.alike hh0
  have c1 : Steps p.tables e below (s₁.setTop (entryFrame m #[.ref d, .int (Int32.ofNat B.slots.size)] 2)) (s₁.setTop (mkF m 0 #[.val (.ref d), .val (.int (Int32.ofNat B.slots.size))] [])) := entry rfl
  have c2 : Steps p.tables e below (s₁.setTop (entryFrame m #[.ref d, .int (Int32.ofNat B.slots.size)] 2)) (s₁.setTop (mkF m 2 #[.val (.ref d), .val (.int (Int32.ofNat B.slots.size))] [.ref d, .int (Int32.ofNat B.slots.size)])) := c1.trans (by
    refine XS.iloadN X0.here hexec rfl (hb hbytes d0) rfl ?_
    refine XS.aloadN X0.here hexec rfl (hb hbytes d1) rfl rfl ?_
    exact Steps.refl _)
  have c3 : Steps p.tables e below (s₁.setTop (entryFrame m #[.ref d, .int (Int32.ofNat B.slots.size)] 2)) (s₁.setTop (mkF m 8 #[.val (.ref d), .val (.int (Int32.ofNat B.slots.size))] [.int (lo8 (ushr (Int32.ofNat B.slots.size - Int32.ofNat B.slots.size) 31))])) := c2.trans (by
    refine X0.alen hexec hB0 rfl rfl (hb hbytes d2) ?_
    refine XS.isub X0.here hexec rfl (hb hbytes d3) rfl ?_
    refine bipushV X0.here hexec rfl 31 (hb hbytes d4) (by decide) ?_
    refine iushr X0.here hexec rfl (hb hbytes d6) rfl ?_
    refine i2b X0.here hexec rfl (hb hbytes d7) rfl ?_
    exact Steps.refl _)
  have e0 : lo8 (ushr (Int32.ofNat B.slots.size - Int32.ofNat B.slots.size) 31) = 0 := by rw [Int32.sub_self]; decide
  rw [e0] at c3
  exact ⟨s₁, some (.int 0), _, _, _, X0, rfl, rfl, rfl, (fun h => by cases h), ⟨rfl, hh0⟩, fun fs hl => c3.trans (X0.ireturnOut hexec hret rfl (Or.inr (Or.inr (Or.inl rfl))) (hb hbytes d8) hl)⟩
end CodL
/-- the String at a is Latin-1 over a new byte[] (the heap's one new cell): the low bytes of the len chars of A from o on; every cell but a is kept -/
def Got (a : Addr) (D : Cell) (fV fC : Field) (A : Cell) (o len : Nat) (r : Option Value) (s u : State) : Prop := r = none ∧ ∃ D' V : Cell, Blank "java/lang/String" a D' u ∧ Same D D' [fV.slot, fC.slot] ∧ D'.slots[fV.slot]? = some (.ref s.heap.size) ∧ D'.slots[fC.slot]? = some (.int 0) ∧ Arr .byte s.heap.size V u ∧ V.vm = .none ∧ u.vm.findClass "[B" = some V.cls ∧ V.slots.size = len ∧ (∀ j, j < len → V.slots[j]? = some (.int (lo8 (cv A (o + j))))) ∧ (∀ (y : Addr) (c : Cell), y ≠ a → s.heap[y]? = some c → u.heap[y]? = some c) ∧ u.heap.size = s.heap.size + 1
theorem Got.mv {a : Addr} {D A : Cell} {fV fC : Field} {o len : Nat} : ∀ r (U U' V V' : State), U'.heap = U.heap → V.vm.Alike V'.vm → V'.heap = V.heap → Got a D fV fC A o len r U V → Got a D fV fC A o len r U' V' :=
  fun r U U' V V' h1 hal h2 ⟨e0, D', X, a1, a2, a3, a4, a5, a6, a7, a8, a9, a10, a11⟩ => ⟨e0, D', X, a1.mv hal h2, a2, by rw [h1]; exact a3, a4, by rw [h1]; exact a5.mv hal h2, a6, by rw [hal.findClass]; exact a7, a8, a9, by rw [h1, h2]; exact a10, by rw [h1, h2]; exact a11⟩
namespace New4
def yN : MethodName := ⟨"java/lang/String", "<init>", "([CIILjava/lang/Void;)V"⟩
abbrev yB : ByteArray := jdk_42_method_149_code
theorem d0 : decode yB 0 = .ok (.aload_n 0, 1) := by decide +kernel
theorem d1 : decode yB 1 = .ok (.invokespecial 1, 3) := by decide +kernel
theorem d4 : decode yB 4 = .ok (.iload_n 3, 1) := by decide +kernel
theorem d5 : decode yB 5 = .ok (.ifCond (.ne) 22, 3) := by decide +kernel
theorem d27 : decode yB 27 = .ok (.getstatic 38, 3) := by decide +kernel
theorem d30 : decode yB 30 = .ok (.ifCond (.eq) 28, 3) := by decide +kernel
theorem d33 : decode yB 33 = .ok (.aload_n 1, 1) := by decide +kernel
theorem d34 : decode yB 34 = .ok (.iload_n 2, 1) := by decide +kernel
theorem d35 : decode yB 35 = .ok (.iload_n 3, 1) := by decide +kernel
theorem d36 : decode yB 36 = .ok (.invokestatic 177, 3) := by decide +kernel
theorem d39 : decode yB 39 = .ok (.astore 5, 2) := by decide +kernel
theorem d41 : decode yB 41 = .ok (.aload_n 0, 1) := by decide +kernel
theorem d42 : decode yB 42 = .ok (.aload 5, 2) := by decide +kernel
theorem d44 : decode yB 44 = .ok (.iload_n 3, 1) := by decide +kernel
theorem d45 : decode yB 45 = .ok (.invokestatic 47, 3) := by decide +kernel
theorem d48 : decode yB 48 = .ok (.putfield 15, 3) := by decide +kernel
theorem d51 : decode yB 51 = .ok (.aload_n 0, 1) := by decide +kernel
theorem d52 : decode yB 52 = .ok (.aload 5, 2) := by decide +kernel
theorem d54 : decode yB 54 = .ok (.putfield 9, 3) := by decide +kernel
theorem d57 : decode yB 57 = .ok (.return_, 1) := by decide +kernel
def site : List Cond := [.fieldLink "java/lang/String" 38 "java/lang/String" "COMPACT_STRINGS" "Z", Cmp3.tab, CodL.tab, .laysFinal "java/lang/String" "java/lang/String" "value" "[B", .fieldLink "java/lang/String" 9 "java/lang/String" "value" "[B", .laysFinal "java/lang/String" "java/lang/String" "coder" "B", .fieldLink "java/lang/String" 15 "java/lang/String" "coder" "B"] ++ objW "java/lang/String" 1 ++ staticW "java/lang/String" 177 Cmp3.yN ++ staticW "java/lang/String" 47 CodL.yN
def tab : Cond := tabOf yN yB 6 none site
def P (a : Addr) (D : Cell) (fV fC : Field) (b : Addr) (A : Cell) (z : Int32) (o len : Nat) (args : Array Value) (s : State) : Prop := args = #[.ref a, .ref b, .int (Int32.ofNat o), .int (Int32.ofNat len), .null] ∧ Blank "java/lang/String" a D s ∧ Found "java/lang/String" "value" "[B" fV s ∧ Found "java/lang/String" "coder" "B" fC s ∧ Ch b A s ∧ StaticIs s "java/lang/String" "COMPACT_STRINGS" "Z" (.int z) ∧ ¬ z = 0 ∧ 0 < len ∧ o + len ≤ A.slots.size ∧ len ≤ 536870912 ∧ ∀ i, i < len → ¬ 255 < cv A (o + i)
def E (a : Addr) (D : Cell) (fV fC : Field) (A : Cell) (o len : Nat) (r : Option Value) (s u : State) : Prop := Got a D fV fC A o len r s u
/-- len > 0, no char of the range above 255: a Latin-1 String of their low bytes -/
theorem law (l : Launch) (a : Addr) (D : Cell) (fV fC : Field) (b : Addr) (A : Cell) (z : Int32) (o len : Nat) : Law l yN 5 4 2 35 yB 6 none site (P a D fV fC b A z o len) (E a D fV fC A o len) [⟨a, fC.slot⟩, ⟨a, fV.slot⟩] 1 len := by
  refine Law.of_walk (plainFor_of_name (by decide +kernel)) (by decide +kernel) (by decide +kernel) (by decide) (fun _ _ h => by rw [h.1]; rfl) (fun _ U U' hal hh h => ⟨h.1, h.2.1.mv hal hh, h.2.2.1.al hal, h.2.2.2.1.al hal, h.2.2.2.2.1.mv hal hh, h.2.2.2.2.2.1.there hal hh, h.2.2.2.2.2.2⟩) (fun r U U' V V' h1 hal h2 h => Got.mv r U U' V V' h1 hal h2 h) ?_
  intro p e s m args below meth c s₁ X0 hexec hbytes hml hret hlk hnm hown hh0 W hP
  obtain ⟨rfl, hB, f1, f2, hA, s1, hz, l0, l1, l2, hp⟩ := hP
  have a31 := hA.1.2.2.2
  have c1 : Steps p.tables e below (s₁.setTop (entryFrame m #[.ref a, .ref b, .int (Int32.ofNat o), .int (Int32.ofNat len), .null] 6)) (s₁.setTop (mkF m 0 #[.val (.ref a), .val (.ref b), .val (.int (Int32.ofNat o)), .val (.int (Int32.ofNat len)), .val .null, .unset] [])) := entry rfl
  have c2 : Steps p.tables e below (s₁.setTop (entryFrame m #[.ref a, .ref b, .int (Int32.ofNat o), .int (Int32.ofNat len), .null] 6)) (s₁.setTop (mkF m 1 #[.val (.ref a), .val (.ref b), .val (.int (Int32.ofNat o)), .val (.int (Int32.ofNat len)), .val .null, .unset] [.ref a])) := c1.trans (by
    refine XS.aloadN X0.here hexec rfl (hb hbytes d0) rfl rfl ?_
    exact Steps.refl _)
  obtain ⟨T3, X3, q3, st3⟩ := X0.oinit hexec hown (wks W (objW "java/lang/String" 1)) (g := (mkF m 1 #[.val (.ref a), .val (.ref b), .val (.int (Int32.ofNat o)), .val (.int (Int32.ofNat len)), .val .null, .unset] [.ref a])) rfl (by rw [hml]; rfl) (rest := []) rfl (hb hbytes d1) (W := 0) (by show 2 * 0 + 0 ≤ _; decide) (Nat.le_of_ble_eq_true rfl) (Nat.le_of_ble_eq_true rfl)
  have hh3 := q3.trans hh0
  have c4 : Steps p.tables e below (s₁.setTop (entryFrame m #[.ref a, .ref b, .int (Int32.ofNat o), .int (Int32.ofNat len), .null] 6)) (T3.setTop (mkF m 27 #[.val (.ref a), .val (.ref b), .val (.int (Int32.ofNat o)), .val (.int (Int32.ofNat len)), .val .null, .unset] [])) := (c2.trans (st3 _ (Steps.refl _))).trans (by
    refine XS.iloadN X3.here hexec rfl (hb hbytes d4) rfl ?_
    refine XS.ifYes X3.here hexec rfl (pc0 := 5) rfl (hb hbytes d5) rfl (i0_ne_t (nz32 (by omega) l0)) (by decide) rfl ?_
    exact Steps.refl _)
  obtain ⟨T5, X5, q5, st5⟩ := X3.sget hexec hown (wk W (.fieldLink "java/lang/String" 38 "java/lang/String" "COMPACT_STRINGS" "Z")) s1 (fun _ _ h => by rw [hh3]; exact h) (g := (mkF m 27 #[.val (.ref a), .val (.ref b), .val (.int (Int32.ofNat o)), .val (.int (Int32.ofNat len)), .val .null, .unset] [])) rfl (hb hbytes d27)
  have hh5 := q5.trans hh3
  have c6 : Steps p.tables e below (s₁.setTop (entryFrame m #[.ref a, .ref b, .int (Int32.ofNat o), .int (Int32.ofNat len), .null] 6)) (T5.setTop (mkF m 30 #[.val (.ref a), .val (.ref b), .val (.int (Int32.ofNat o)), .val (.int (Int32.ofNat len)), .val .null, .unset] [.int z])) := c4.trans (st5 _ (Steps.refl _))
  have c7 : Steps p.tables e below (s₁.setTop (entryFrame m #[.ref a, .ref b, .int (Int32.ofNat o), .int (Int32.ofNat len), .null] 6)) (T5.setTop (mkF m 36 #[.val (.ref a), .val (.ref b), .val (.int (Int32.ofNat o)), .val (.int (Int32.ofNat len)), .val .null, .unset] [.int (Int32.ofNat len), .int (Int32.ofNat o), .ref b])) := c6.trans (by
    refine XS.ifNo X5.here hexec rfl (hb hbytes d30) rfl (i0_eq_f hz) ?_
    refine XS.aloadN X5.here hexec rfl (hb hbytes d33) rfl rfl ?_
    refine XS.iloadN X5.here hexec rfl (hb hbytes d34) rfl ?_
    refine XS.iloadN X5.here hexec rfl (hb hbytes d35) rfl ?_
    exact Steps.refl _)
  obtain ⟨v8, T8, X8, E8, g8⟩ := X5.callS hexec (Cmp3.law l b A o len) hown (wks W (staticW "java/lang/String" 177 Cmp3.yN)) (wk W Cmp3.tab) (W := 0) (Nat.le_of_ble_eq_true rfl) (Nat.le_of_ble_eq_true rfl) (Nat.le_refl _) (by show 0 + len ≤ len; omega) (g := (mkF m 36 #[.val (.ref a), .val (.ref b), .val (.int (Int32.ofNat o)), .val (.int (Int32.ofNat len)), .val .null, .unset] [.int (Int32.ofNat len), .int (Int32.ofNat o), .ref b])) rfl (by rw [hml]; rfl) c7 (argsL := [.ref b, .int (Int32.ofNat o), .int (Int32.ofNat len)]) (rest := []) rfl rfl (by show 2 * 0 + 0 ≤ _; decide) (hb hbytes d36) (⟨rfl, hA.mv X5.warmed.alike hh5, l1, l2, hp⟩)
  obtain ⟨e8, z8⟩ := E8
  obtain ⟨rfl, N, n1, n2, n3, n4, n5, n6⟩ := NewArr.mv _ T5 s _ _ hh5.symm (Vm.Alike.refl _) rfl e8
  rw [hh5] at z8
  have hB1 := hB.keep X8.warmed.alike (n6 _ _ hB.1)
  have hne : s.heap.size ≠ a := (Nat.ne_of_lt (Array.getElem?_eq_some_iff.mp hB.1).1).symm
  have c9 : Steps p.tables e below (s₁.setTop (entryFrame m #[.ref a, .ref b, .int (Int32.ofNat o), .int (Int32.ofNat len), .null] 6)) (T8.setTop (mkF m 39 #[.val (.ref a), .val (.ref b), .val (.int (Int32.ofNat o)), .val (.int (Int32.ofNat len)), .val .null, .unset] [.ref s.heap.size])) := g8
  have c10 : Steps p.tables e below (s₁.setTop (entryFrame m #[.ref a, .ref b, .int (Int32.ofNat o), .int (Int32.ofNat len), .null] 6)) (T8.setTop (mkF m 45 #[.val (.ref a), .val (.ref b), .val (.int (Int32.ofNat o)), .val (.int (Int32.ofNat len)), .val .null, .val (.ref s.heap.size)] [.int (Int32.ofNat N.slots.size), .ref s.heap.size, .ref a])) := by
    have hc : Steps p.tables e below (s₁.setTop (entryFrame m #[.ref a, .ref b, .int (Int32.ofNat o), .int (Int32.ofNat len), .null] 6)) (T8.setTop (mkF m 45 #[.val (.ref a), .val (.ref b), .val (.int (Int32.ofNat o)), .val (.int (Int32.ofNat len)), .val .null, .val (.ref s.heap.size)] [.int (Int32.ofNat len), .ref s.heap.size, .ref a])) := c9.trans (by
      refine XS.astore X8.here hexec rfl (hb hbytes d39) rfl rfl rfl ?_
      refine XS.aloadN X8.here hexec rfl (hb hbytes d41) rfl rfl ?_
      refine XS.aload X8.here hexec rfl (hb hbytes d42) rfl rfl ?_
      refine XS.iloadN X8.here hexec rfl (hb hbytes d44) rfl ?_
      exact Steps.refl _)
    rw [n4]; exact hc
  obtain ⟨v11, T11, X11, E11, g11⟩ := X8.callS hexec (CodL.law l s.heap.size N) hown (wks W (staticW "java/lang/String" 47 CodL.yN)) (wk W CodL.tab) (W := 1) (Nat.le_of_ble_eq_true rfl) (Nat.le_of_ble_eq_true rfl) (Nat.le_refl _) (by show 0 + len + 0 ≤ len; omega) (g := (mkF m 45 #[.val (.ref a), .val (.ref b), .val (.int (Int32.ofNat o)), .val (.int (Int32.ofNat len)), .val .null, .val (.ref s.heap.size)] [.int (Int32.ofNat N.slots.size), .ref s.heap.size, .ref a])) rfl (by rw [hml]; rfl) c10 (argsL := [.ref s.heap.size, .int (Int32.ofNat N.slots.size)]) (rest := [.ref a]) rfl rfl (by show 2 * 0 + (1 + 0) ≤ _; decide) (hb hbytes d45) (⟨rfl, n1⟩)
  obtain ⟨rfl, q11⟩ := E11
  have hB11 := hB1.mv (X8.warmed.alike.symm.trans X11.warmed.alike) q11
  have c12 : Steps p.tables e below (s₁.setTop (entryFrame m #[.ref a, .ref b, .int (Int32.ofNat o), .int (Int32.ofNat len), .null] 6)) (T11.setTop (mkF m 48 #[.val (.ref a), .val (.ref b), .val (.int (Int32.ofNat o)), .val (.int (Int32.ofNat len)), .val .null, .val (.ref s.heap.size)] [.int 0, .ref a])) := g11
  obtain ⟨T13, X13, p13, bl13, sl13, st13⟩ := X11.finit hexec hown (wk W (.fieldLink "java/lang/String" 15 "java/lang/String" "coder" "B")) (Or.inr ⟨_, (wk W (.laysFinal "java/lang/String" "java/lang/String" "coder" "B"))⟩) (Or.inl ⟨rfl, hnm⟩) f2 (Or.inl rfl) hB11 (t := .byte) (by decide +kernel) rfl (g := (mkF m 48 #[.val (.ref a), .val (.ref b), .val (.int (Int32.ofNat o)), .val (.int (Int32.ofNat len)), .val .null, .val (.ref s.heap.size)] [.int 0, .ref a])) rfl (rest := []) rfl (hb hbytes d48)
  have c14 : Steps p.tables e below (s₁.setTop (entryFrame m #[.ref a, .ref b, .int (Int32.ofNat o), .int (Int32.ofNat len), .null] 6)) (T13.setTop (mkF m 54 #[.val (.ref a), .val (.ref b), .val (.int (Int32.ofNat o)), .val (.int (Int32.ofNat len)), .val .null, .val (.ref s.heap.size)] [.ref s.heap.size, .ref a])) := (c12.trans (st13 _ (Steps.refl _))).trans (by
    refine XS.aloadN X13.here hexec rfl (hb hbytes d51) rfl rfl ?_
    refine XS.aload X13.here hexec rfl (hb hbytes d52) rfl rfl ?_
    exact Steps.refl _)
  obtain ⟨T15, X15, p15, bl15, sl15, st15⟩ := X13.finit hexec hown (wk W (.fieldLink "java/lang/String" 9 "java/lang/String" "value" "[B")) (Or.inr ⟨_, (wk W (.laysFinal "java/lang/String" "java/lang/String" "value" "[B"))⟩) (Or.inl ⟨rfl, hnm⟩) f1 (Or.inl rfl) bl13 (t := (.array .byte)) (by decide +kernel) rfl (g := (mkF m 54 #[.val (.ref a), .val (.ref b), .val (.int (Int32.ofNat o)), .val (.int (Int32.ofNat len)), .val .null, .val (.ref s.heap.size)] [.ref s.heap.size, .ref a])) rfl (rest := []) rfl (hb hbytes d54)
  have c16 : Steps p.tables e below (s₁.setTop (entryFrame m #[.ref a, .ref b, .int (Int32.ofNat o), .int (Int32.ofNat len), .null] 6)) (T15.setTop (mkF m 57 #[.val (.ref a), .val (.ref b), .val (.int (Int32.ofNat o)), .val (.int (Int32.ofNat len)), .val .null, .val (.ref s.heap.size)] [])) := c14.trans (st15 _ (Steps.refl _))
  have ap := apart (Or.inr ⟨_, (wk W (.laysFinal "java/lang/String" "java/lang/String" "value" "[B"))⟩) (Or.inr ⟨_, (wk W (.laysFinal "java/lang/String" "java/lang/String" "coder" "B"))⟩) f1 f2 (t₁ := .array .byte) (t₂ := .byte) (by decide +kernel) (by decide +kernel) (by decide)
  have al := X8.warmed.alike.symm.trans X15.warmed.alike
  have n7 : T11.heap[s.heap.size]? = some N := by rw [q11]; exact n1.1
  exact ⟨T15, none, _, _, _, X15, by simp, rfl, by omega, (fun _ => rfl), ⟨rfl, _, N, bl15, ((Same.refl D _).set _ (by simp)).set _ (by simp), sl15, (Cell.slots_setSlot_ne _ ap).trans sl13, n1.keep al (p15.other hne (p13.other hne n7)), n2, by rw [al.findClass]; exact n3, n4, n5, fun y c h1 h2 => p15.other h1 (p13.other h1 (by rw [q11]; exact n6 y c h2)), by rw [p15.2.2, p13.2.2, q11]; exact z8⟩, fun fs hl => c16.trans (X15.returnOut hexec hret (hb hbytes d57) hl)⟩
end New4
namespace New1
def yN : MethodName := ⟨"java/lang/String", "<init>", "([C)V"⟩
abbrev yB : ByteArray := jdk_42_method_3_code
theorem d0 : decode yB 0 = .ok (.aload_n 0, 1) := by decide +kernel
theorem d1 : decode yB 1 = .ok (.aload_n 1, 1) := by decide +kernel
theorem d2 : decode yB 2 = .ok (.iconst 0, 1) := by decide +kernel
theorem d3 : decode yB 3 = .ok (.aload_n 1, 1) := by decide +kernel
theorem d4 : decode yB 4 = .ok (.arraylength, 1) := by decide +kernel
theorem d5 : decode yB 5 = .ok (.aconst_null, 1) := by decide +kernel
theorem d6 : decode yB 6 = .ok (.invokespecial 27, 3) := by decide +kernel
theorem d9 : decode yB 9 = .ok (.return_, 1) := by decide +kernel
def site : List Cond := [New4.tab] ++ initW "java/lang/String" 27 New4.yN
def tab : Cond := tabOf yN yB 2 none site
def P (a : Addr) (D : Cell) (fV fC : Field) (b : Addr) (A : Cell) (z : Int32) (args : Array Value) (s : State) : Prop := args = #[.ref a, .ref b] ∧ Blank "java/lang/String" a D s ∧ Found "java/lang/String" "value" "[B" fV s ∧ Found "java/lang/String" "coder" "B" fC s ∧ Ch b A s ∧ StaticIs s "java/lang/String" "COMPACT_STRINGS" "Z" (.int z) ∧ ¬ z = 0 ∧ 0 < A.slots.size ∧ A.slots.size ≤ 536870912 ∧ ∀ i, i < A.slots.size → ¬ 255 < cv A i
def E (a : Addr) (D : Cell) (fV fC : Field) (A : Cell) (r : Option Value) (s u : State) : Prop := Got a D fV fC A 0 A.slots.size r s u
/-- new String(chars), not empty, no char above 255: a Latin-1 String of their low bytes -/
theorem law (l : Launch) (a : Addr) (D : Cell) (fV fC : Field) (b : Addr) (A : Cell) (z : Int32) : Law l yN 2 1 3 52 yB 2 none site (P a D fV fC b A z) (E a D fV fC A) [⟨a, fC.slot⟩, ⟨a, fV.slot⟩] 1 A.slots.size := by
  refine Law.of_walk (plainFor_of_name (by decide +kernel)) (by decide +kernel) (by decide +kernel) (by decide) (fun _ _ h => by rw [h.1]; rfl) (fun _ U U' hal hh h => ⟨h.1, h.2.1.mv hal hh, h.2.2.1.al hal, h.2.2.2.1.al hal, h.2.2.2.2.1.mv hal hh, h.2.2.2.2.2.1.there hal hh, h.2.2.2.2.2.2⟩) (fun r U U' V V' h1 hal h2 h => Got.mv r U U' V V' h1 hal h2 h) ?_
  intro p e s m args below meth c s₁ X0 hexec hbytes hml hret hlk hnm hown hh0 W hP
  obtain ⟨rfl, hB, f1, f2, hA, s1, hz, l0, l2, hp⟩ := hP
  have c1 : Steps p.tables e below (s₁.setTop (entryFrame m #[.ref a, .ref b] 2)) (s₁.setTop (mkF m 0 #[.val (.ref a), .val (.ref b)] [])) := entry rfl
  have c2 : Steps p.tables e below (s₁.setTop (entryFrame m #[.ref a, .ref b] 2)) (s₁.setTop (mkF m 6 #[.val (.ref a), .val (.ref b)] [.null, .int (Int32.ofNat A.slots.size), .int 0, .ref b, .ref a])) := c1.trans (by
    refine XS.aloadN X0.here hexec rfl (hb hbytes d0) rfl rfl ?_
    refine XS.aloadN X0.here hexec rfl (hb hbytes d1) rfl rfl ?_
    refine iconstV X0.here hexec rfl 0 (hb hbytes d2) (by decide) ?_
    refine XS.aloadN X0.here hexec rfl (hb hbytes d3) rfl rfl ?_
    refine X0.alen hexec (hA.1.mv X0.warmed.alike hh0) rfl rfl (hb hbytes d4) ?_
    refine XS.aconstNull X0.here hexec rfl (hb hbytes d5) ?_
    exact Steps.refl _)
  obtain ⟨v3, T3, X3, E3, g3⟩ := X0.callN hexec (New4.law l a D fV fC b A z 0 A.slots.size) rfl hown (wks W (initW "java/lang/String" 27 New4.yN)) (W New4.tab (by simp only [site, List.mem_cons, List.mem_append, true_or, or_true])) (W := 0) (Nat.le_of_ble_eq_true rfl) (Nat.le_of_ble_eq_true rfl) (Nat.le_refl _) (by show 0 + A.slots.size ≤ A.slots.size; omega) (g := (mkF m 6 #[.val (.ref a), .val (.ref b)] [.null, .int (Int32.ofNat A.slots.size), .int (Int32.ofNat 0), .ref b, .ref a])) rfl (by rw [hml]; rfl) c2 (argsL := [.ref b, .int (Int32.ofNat 0), .int (Int32.ofNat A.slots.size), .null]) (rest := []) rfl rfl (by show 2 * 0 + 0 ≤ _; decide) (hb hbytes d6) (⟨rfl, hB.mv X0.warmed.alike hh0, f1.al X0.warmed.alike, f2.al X0.warmed.alike, hA.mv X0.warmed.alike hh0, s1.there X0.warmed.alike hh0, hz, l0, by omega, l2, fun i hi => by rw [Nat.zero_add]; exact hp i hi⟩)
  have e0 := Got.mv _ s₁ s _ _ hh0.symm (Vm.Alike.refl _) rfl E3
  obtain rfl := e0.1
  have c4 : Steps p.tables e below (s₁.setTop (entryFrame m #[.ref a, .ref b] 2)) (T3.setTop (mkF m 9 #[.val (.ref a), .val (.ref b)] [])) := g3
  exact ⟨T3, none, _, _, _, X3, by simp, rfl, by omega, (fun _ => rfl), e0, fun fs hl => c4.trans (X3.returnOut hexec hret (hb hbytes d9) hl)⟩
theorem pays {l : Launch} {R : Room} {p : Program} {e : Env} {below : List Frame} {s : State} {sargs : Array Value} {len W : Nat} (a : Addr) (D : Cell) (fV fC : Field) (b : Addr) (A : Cell) (z : Int32) (htab : tab.before sargs s = true) (hfr : 4 ≤ R.frames) (hlo : W + 65 ≤ R.locals) :
    Back l R p e below s sargs yN len W (fun A₁ a₁ => A₁.cells + 1 ≤ R.cells ∧ A₁.slots + A.slots.size ≤ R.slots ∧ P a D fV fC b A z a₁ A₁.U) (fun A₁ _ v₁ B₁ => E a D fV fC A v₁ A₁.U B₁.U ∧ B₁.locs = A₁.locs ++ [⟨a, fC.slot⟩, ⟨a, fV.slot⟩] ∧ B₁.cells = A₁.cells + 1 ∧ B₁.slots = A₁.slots + A.slots.size) :=
  (law l a D fV fC b A z).pays htab hfr (by omega)
end New1
/-- the byte, read back as charAt reads it, is the char -/
theorem lo8_mask {x : Int32} (h0 : ¬ x < 0) (h1 : ¬ 255 < x) : lo8 x &&& 255 = x := by
  have t : ∀ k : Fin 256, lo8 (Int32.ofNat k.val) &&& 255 = Int32.ofNat k.val := by decide +kernel
  rw [Int32.lt_iff_toInt_lt] at h0 h1
  have e0 : (0 : Int32).toInt = 0 := rfl
  have e1 : (255 : Int32).toInt = 255 := rfl
  obtain ⟨k, hk⟩ : ∃ k : Nat, x.toInt = k := ⟨x.toInt.toNat, by omega⟩
  have hx : x = Int32.ofNat k := Int32.toInt_inj.mp (by rw [hk, Int32.toInt_ofNat_small (by omega)])
  rw [hx]
  exact t ⟨k, by omega⟩
end StrChars
namespace StrChars.Road
open Jvm Sem ClassFile Op Lib Jvm.Stand Jvm.Free Jvm.Free.XT
open Jvm.Lib.Cold (StaticIs)
abbrev ST : String := "java/lang/String"
/-- every table word that New1's law asks, flat -/
abbrev words : List Jvm.Cond := [.code New1.yN New1.yB 2 none, .initialized ST, .methodLink ST 27 New4.yN, .instanceMethod New4.yN,
  .code New4.yN New4.yB 6 none, .fieldLink ST 38 ST "COMPACT_STRINGS" "Z", .laysFinal ST ST "value" "[B", .fieldLink ST 9 ST "value" "[B", .laysFinal ST ST "coder" "B", .fieldLink ST 15 ST "coder" "B",
  .methodLink ST 1 Lib.objectInit, .instanceMethod Lib.objectInit, .code Lib.objectInit ⟨#[0xb1]⟩ 1 none, .methodLink ST 177 Cmp3.yN, .static Cmp3.yN, .methodLink ST 47 CodL.yN, .static CodL.yN,
  .code Cmp3.yN Cmp3.yB 6 (some (.array .byte)), .initialized U16, .arrayClass .byte, .methodLink U16 115 Cmp5.yN, .static Cmp5.yN, .code Cmp5.yN Cmp5.yB 7 (some .int), .code CodL.yN CodL.yB 2 (some .byte)]
theorem tab_of {a : Array Value} {s : State} (h : ∀ w ∈ words, w.before a s = true) : New1.tab.before a s = true := by
  have h5 : Cmp5.tab.before a s = true := unparts (wk h (.code Cmp5.yN Cmp5.yB 7 (some .int))) (wks h (.initialized Cmp5.yN.cls :: Cmp5.site))
  have hc : CodL.tab.before a s = true := unparts (wk h (.code CodL.yN CodL.yB 2 (some .byte))) (wks h (.initialized CodL.yN.cls :: CodL.site))
  have q5 : ∀ w ∈ Cmp5.tab :: words, w.before a s = true := fun w hw => (List.mem_cons.mp hw).elim (fun e => e ▸ h5) (h w)
  have h3 : Cmp3.tab.before a s = true := unparts (wk q5 (.code Cmp3.yN Cmp3.yB 6 (some (.array .byte)))) (wks q5 (.initialized Cmp3.yN.cls :: Cmp3.site))
  have q3 : ∀ w ∈ Cmp3.tab :: CodL.tab :: words, w.before a s = true := fun w hw => (List.mem_cons.mp hw).elim (fun e => e ▸ h3) fun hw => (List.mem_cons.mp hw).elim (fun e => e ▸ hc) (h w)
  have h4 : New4.tab.before a s = true := unparts (wk q3 (.code New4.yN New4.yB 6 none)) (wks q3 (.initialized New4.yN.cls :: New4.site))
  have q4 : ∀ w ∈ New4.tab :: words, w.before a s = true := fun w hw => (List.mem_cons.mp hw).elim (fun e => e ▸ h4) (h w)
  exact unparts (wk q4 (.code New1.yN New1.yB 2 none)) (wks q4 (.initialized New1.yN.cls :: New1.site))
/-- the words ride from the start Z to the walk's own state -/
theorem moved {Z s : State} {a0 args : Array Value} (hZ : Z.Warmed39 s.vm) (hw : ∀ d ∈ words, d.before a0 Z = true) : ∀ d ∈ words, d.before args s = true := fun d hd => by
  have q := hw d hd
  have t : ∀ d ∈ words, d = .arrayClass .byte ∨ (d.onTables && d.keepsFace) = true := by decide +kernel
  rcases t d hd with rfl | t
  · exact RoadKit.mvA hZ q
  · exact RoadKit.mv hZ q t
/-- WHAT COMES BACK, over the tables of the start Z: h the heap at the call, h' behind it -/
def Q (Z : State) (x : Addr) (A : Cell) (h : Heap) (v : Option Value) (h' : Heap) (L : List Loc) : Prop := v = none ∧ (∀ y ∈ L, y.base = x) ∧ RoadKit.Keep h h' [x] ∧ h'.size = h.size + 1 ∧ RoadKit.Exa Z h' x ST ∧ RoadKit.Fld Z h' x ST "value" "[B" (.ref h.size) ∧ RoadKit.Fld Z h' x ST "coder" "B" (.int 0) ∧
  (∃ V : Cell, RoadKit.Arr Z h' h.size V .byte ∧ V.vm = .none ∧ Z.vm.findClass "[B" = some V.cls ∧ V.slots.size = A.slots.size ∧ ∀ j, j < A.slots.size → V.slots[j]? = some (.int (lo8 (cv A j)))) ∧
  ∀ (O n d : String) (w : Value), RoadKit.Fld Z h x O n d w → RoadKit.slotOf Z O n d ≠ RoadKit.slotOf Z ST "value" "[B" → RoadKit.slotOf Z O n d ≠ RoadKit.slotOf Z ST "coder" "B" → RoadKit.Fld Z h' x O n d w
/-- **new String(chars) AT A CALL, IN THE ROAD'S FORM**: for specialBack behind newO: x the fresh String, b the char[] with the cell A -/
theorem back {p : Program} {l : Launch} {e : Env} {R : Room} {s : State} {args : Array Value} {below : List Frame} {len W : Nat} {Z : State} {a0 : Array Value} {h : Heap} (hZ : Z.Warmed39 s.vm) (hw : ∀ d ∈ words, d.before a0 Z = true) {kI : Nat} (wi : (Jvm.Cond.instantiable ST kI).before a0 Z = true)
    {x b : Addr} {A : Cell} {z : Int32} {v0 c0 : Value} (E : RoadKit.Exa Z h x ST) (V : RoadKit.Fld Z h x ST "value" "[B" v0) (C : RoadKit.Fld Z h x ST "coder" "B" c0) (K : RoadKit.Arr Z h b A .char) (hty : Typed .char A) (S : RoadKit.Sta Z h ST "COMPACT_STRINGS" "Z" (.int z)) (hz : ¬ z = 0)
    (l0 : 0 < A.slots.size) (l2 : A.slots.size ≤ 536870912) (hp : ∀ i, i < A.slots.size → ¬ 255 < cv A i) (hfr : 4 ≤ R.frames) (hlo : W + 65 ≤ R.locals) :
    Back l R p e below s args New1.yN len W (fun P a => a = #[.ref x, .ref b] ∧ P.U.heap = h ∧ P.cells + 1 ≤ R.cells ∧ P.slots + A.slots.size ≤ R.slots)
      (fun P _ v B => ∃ L, Q Z x A h v B.U.heap L ∧ B.locs = P.locs ++ L ∧ B.cells = P.cells + 1 ∧ B.slots = P.slots + A.slots.size) := by
  intro m meth c P g ig mk a X hg hsize hdg hW hn hp'
  obtain ⟨rfl, rfl, r1, r2⟩ := hp'
  have al : Z.vm.Alike P.U.vm := hZ.alike.trans X.warmed.alike
  obtain ⟨D, cfV, kV, iV, fV, hD, gV, stV, knV, obV, asV, slV⟩ := id V
  obtain ⟨D', cfC, kC, iC, fC, hD', gC, stC, -, -, asC, slC⟩ := id C
  cases hD.symm.trans hD'
  obtain ⟨D2, kD, e1, e2, e3, e4, e5⟩ := id E
  cases hD.symm.trans e1
  obtain ⟨c2, k2, i1, i2, i3, -⟩ := Cond.instantiable_spec wi
  cases e2.symm.trans i1
  cases e3.symm.trans i2
  obtain ⟨kU, u1, u2⟩ := al.2.2 _ _ e3
  have hB : Blank ST x D P.U := ⟨hD, ⟨knV, fun q hq => by rw [hq] at obV; cases obV⟩, by rw [al.findClass]; exact e2, kU, u1, by rw [u2]; exact i3, by rw [u2]; exact e5 i3⟩
  have F1 : Found ST "value" "[B" fV P.U := ⟨SBG.found_only al ⟨cfV, kV, iV, gV⟩, stV⟩
  have F2 : Found ST "coder" "B" fC P.U := ⟨SBG.found_only al ⟨cfC, kC, iC, gC⟩, stC⟩
  have hA : Ch b A P.U := ⟨⟨K.1, State.isArrayOf_alike al K.2.1, K.2.2, by omega⟩, hty⟩
  have hS : StaticIs P.U ST "COMPACT_STRINGS" "Z" (.int z) := by
    obtain ⟨cfS, iS, kS, fS, st, cS, t1, t2, t3, t4, t5, t6, t7⟩ := S
    exact StaticIs.there (s := { Z with heap := P.U.heap }) ⟨cfS, iS, kS, fS, st, cS, t1, t2, t3, t4, t5, (fun q => by rw [q] at t6; cases t6), t7⟩ al rfl
  obtain ⟨v, B, X', ⟨⟨hv, E', V', q1, q2, q3, q4, q5, q6, q7, q8, q9, q10, q11⟩, hl, hc, hs⟩, st⟩ := New1.pays x D fV fC b A z (tab_of (moved hZ hw)) hfr hlo m meth c P g ig mk _ X hg hsize hdg hW hn ⟨r1, r2, rfl, hB, F1, F2, hA, hS, hz, l0, l2, hp⟩
  have al' : Z.vm.Alike B.U.vm := hZ.alike.trans X'.warmed.alike
  have hsz : E'.slots.size = D.slots.size := by
    obtain ⟨-, -, -, kB, w1, w2, w3⟩ := q1
    obtain ⟨kB', y1, y2⟩ := al'.2.2 _ _ e3
    rw [q2.2.1] at w1
    cases w1.symm.trans y1
    rw [w3, e5 i3, y2]
  refine ⟨v, B, X', ⟨_, ⟨hv, ?_, ⟨by omega, fun y cy hy hn' => q10 y cy (by simpa using hn') hy, fun y cy hy => ?_⟩, q11, ⟨E', _, q1.1, by rw [q2.2.1]; exact e2, by rw [q2.2.1]; exact e3, by rw [q2.1]; exact obV, fun _ => by rw [hsz]; exact e5 i3⟩,
    ⟨E', cfV, kV, iV, fV, q1.1, gV, stV, by rw [q2.1]; exact knV, by rw [q2.1]; exact obV, by rw [q2.2.1]; exact asV, q3⟩, ⟨E', cfC, kC, iC, fC, q1.1, gC, stC, by rw [q2.1]; exact knV, by rw [q2.1]; exact obV, by rw [q2.2.1]; exact asC, q4⟩,
    ⟨V', ⟨q5.1, State.isArrayOf_alike al'.symm q5.2.1, q5.2.2.1⟩, q6, by rw [← al'.findClass]; exact q7, q8, fun j hj => by have := q9 j hj; rwa [Nat.zero_add] at this⟩, fun O n d w F n1 n2 => ?_⟩, hl, hc, hs⟩, st⟩
  · intro y hy
    simp only [List.mem_cons, List.not_mem_nil, or_false] at hy
    rcases hy with rfl | rfl <;> rfl
  · by_cases q : y = x
    · subst q
      cases hD.symm.trans hy
      exact ⟨E', q1.1, q2.2.1, q2.1, hsz⟩
    · exact ⟨cy, q10 y cy q hy, rfl, rfl, rfl⟩
  · obtain ⟨D3, cf, k, i, f, g1, g2, g3, g4, g5, g6, g7⟩ := F
    cases hD.symm.trans g1
    simp only [RoadKit.slotOf, g2, gV, gC, Option.map_some, Option.getD_some] at n1 n2
    exact ⟨E', cf, k, i, f, q1.1, g2, g3, by rw [q2.1]; exact g4, by rw [q2.1]; exact g5, by rw [q2.2.1]; exact g6, by rw [q2.2.2 f.slot (by simp [n1, n2])]; exact g7⟩
end StrChars.Road
namespace StrChars.Road
open Jvm Sem ClassFile Op Lib Jvm.Stand Jvm.Free Jvm.Free.XT
/-- WHAT COMES BACK, the byte[] as a list of values -/
def QA (Z : State) (x : Addr) (zn : Int32) (cs : List Int32) (h : Heap) (v : Option Value) (h' : Heap) (L : List Loc) : Prop := v = none ∧ (∀ y ∈ L, y.base = x) ∧ RoadKit.Keep h h' [x] ∧ h'.size = h.size + 1 ∧ RoadKit.Exa Z h' x ST ∧ RoadKit.Fld Z h' x ST "value" "[B" (.ref h.size) ∧ RoadKit.Fld Z h' x ST "coder" "B" (.int 0) ∧
  (∃ kb, Z.vm.findClass "[B" = some kb ∧ RoadKit.Arv Z h' h.size kb .byte zn (cs.map fun c => .int (lo8 c)) (.int 0)) ∧
  ∀ (O n d : String) (w : Value), RoadKit.Fld Z h x O n d w → RoadKit.slotOf Z O n d ≠ RoadKit.slotOf Z ST "value" "[B" → RoadKit.slotOf Z O n d ≠ RoadKit.slotOf Z ST "coder" "B" → RoadKit.Fld Z h' x O n d w
/-- **new String(chars) AT A CALL, THE ARRAYS AS LISTS**: the char[] at b holds cs, not empty, no char above 255 -/
theorem backArv {p : Program} {l : Launch} {e : Env} {R : Room} {s : State} {args : Array Value} {below : List Frame} {len W : Nat} {Z : State} {a0 : Array Value} {h : Heap} (hZ : Z.Warmed39 s.vm) (hw : ∀ d ∈ words, d.before a0 Z = true) {kI : Nat} (wi : (Jvm.Cond.instantiable ST kI).before a0 Z = true)
    {x b : Addr} {k : ClassId} {zn z : Int32} {cs : List Int32} {dv v0 c0 : Value} (E : RoadKit.Exa Z h x ST) (V : RoadKit.Fld Z h x ST "value" "[B" v0) (C : RoadKit.Fld Z h x ST "coder" "B" c0) (K : RoadKit.Arv Z h b k .char zn (cs.map Value.int) dv) (S : RoadKit.Sta Z h ST "COMPACT_STRINGS" "Z" (.int z)) (hz : ¬ z = 0)
    (hlen : zn.toNatClampNeg = cs.length) (h0 : 0 < cs.length) (hbig : cs.length ≤ 536870912) (hall : ∀ c ∈ cs, ¬ 255 < c) (hfr : 4 ≤ R.frames) (hlo : W + 65 ≤ R.locals) :
    Back l R p e below s args New1.yN len W (fun P a => a = #[.ref x, .ref b] ∧ P.U.heap = h ∧ P.cells + 1 ≤ R.cells ∧ P.slots + cs.length ≤ R.slots)
      (fun P _ v B => ∃ L, QA Z x zn cs h v B.U.heap L ∧ B.locs = P.locs ++ L ∧ B.cells = P.cells + 1 ∧ B.slots = P.slots + cs.length) := by
  obtain ⟨A, K1, K2, K3, K4, K5, K6⟩ := K
  have e : A.slots.size = cs.length := K3.trans hlen
  have hat : ∀ (i : Nat) (hi : i < cs.length), A.slots[i]? = some (.int cs[i]) := fun i hi => by rw [K5 i (by omega)]; simp [List.getD_eq_getElem?_getD, hi]
  have hcv : ∀ (i : Nat) (hi : i < cs.length), cv A i = cs[i] := fun i hi => by unfold cv; rw [hat i hi]
  have hty : Typed .char A := fun i v hv => by
    have hi : i < A.slots.size := (Array.getElem?_eq_some_iff.mp hv).1
    have q := K5 i hi
    rw [hv] at q
    rw [Option.some.inj q]
    exact K6 i hi
  refine Back.mono (back hZ hw wi E V C K1 hty S hz (by omega) (by omega) (fun i hi => by rw [hcv i (by omega)]; exact hall _ (List.getElem_mem _)) hfr hlo) (fun P a hp => ⟨hp.1, hp.2.1, hp.2.2.1, by rw [e]; exact hp.2.2.2⟩) (fun P a v B hp hq => ?_)
  obtain ⟨L, ⟨q1, q2, q3, q4, q5, q6, q7, ⟨V', v1, v2, v3, v4, v5⟩, q9⟩, hl, hc, hs⟩ := hq
  refine ⟨L, ⟨q1, q2, q3, q4, q5, q6, q7, ⟨V'.cls, v3, V', v1, rfl, by rw [v4, e, hlen], K4, fun i hi => ?_, fun i hi => ?_⟩, q9⟩, hl, hc, by rw [hs, e]⟩
  · have hi' : i < cs.length := by omega
    rw [v5 i (by omega), hcv i hi']; simp [List.getD_eq_getElem?_getD, hi']
  · have hi' : i < cs.length := by omega
    simp only [List.getD_eq_getElem?_getD, List.getElem?_map, List.getElem?_eq_getElem hi', Option.map_some, Option.getD_some]
    exact fits_lo8 _
end StrChars.Road
namespace StrChars.Road
open Jvm Sem ClassFile Op Lib Jvm.Stand Jvm.Free Jvm.Free.XT
/-- WHAT COMES BACK, in the writer's own shape -/
def QV (Z : State) (x : Addr) (N : Int32) (bs : List Int32) (h : Heap) (n0 : Nat) (v : Option Value) (h' : Heap) (L : List Loc) : Prop := v = none ∧ RoadKit.Fr n0 L ∧ RoadKit.Keep h h' [x] ∧ RoadKit.Exa Z h' x ST ∧ RoadKit.Fld Z h' x ST "coder" "B" (.int 0) ∧
  ∃ (t : Addr) (kb : ClassId), n0 ≤ t ∧ h.size ≤ t ∧ ¬ t = x ∧ RoadKit.Fld Z h' x ST "value" "[B" (.ref t) ∧ RoadKit.Arv Z h' t kb .byte N (bs.map Value.int) (.int 0)
/-- **new String(chars) AT A CALL, FOR THE WRITER**: a char[] of n known ints, each 0 to 255 -/
theorem backV {p : Program} {l : Launch} {e : Env} {R : Room} {s : State} {args : Array Value} {below : List Frame} {len W : Nat} {Z : State} {a0 : Array Value} {h : Heap} (hZ : Z.Warmed39 s.vm) (hw : ∀ d ∈ words, d.before a0 Z = true) {kI : Nat} (wi : (Jvm.Cond.instantiable ST kI).before a0 Z = true)
    {x b : Addr} {kC : ClassId} {cs bs : List Int32} {d v0 c0 : Value} {z N : Int32} {n n0 : Nat} (hx0 : n0 ≤ x) (hh0 : n0 ≤ h.size) (E : RoadKit.Exa Z h x ST) (V : RoadKit.Fld Z h x ST "value" "[B" v0) (C : RoadKit.Fld Z h x ST "coder" "B" c0) (K : RoadKit.Arv Z h b kC .char N (cs.map Value.int) d) (S : RoadKit.Sta Z h ST "COMPACT_STRINGS" "Z" (.int z)) (hz : ¬ z = 0)
    (hn : cs.length = n) (hN : N = Int32.ofNat n) (l0 : 0 < n) (l2 : n ≤ 4000) (hp : ∀ c ∈ cs, ¬ c < 0 ∧ ¬ (255 : Int32) < c) (hb : bs = cs.map (fun c => c.toInt8.toInt32)) (hfr : 4 ≤ R.frames) (hlo : W + 65 ≤ R.locals) :
    Back l R p e below s args (⟨"java/lang/String", "<init>", "([C)V"⟩ : MethodName) len W (fun P a => a = #[.ref x, .ref b] ∧ P.U.heap = h ∧ P.cells + 1 ≤ R.cells ∧ P.slots + n ≤ R.slots)
      (fun P _ v B => ∃ L, QV Z x N bs h n0 v B.U.heap L ∧ B.locs = P.locs ++ L ∧ B.cells = P.cells + 1 ∧ B.slots = P.slots + n) := by
  subst hn hN hb
  refine Back.mono (backArv hZ hw wi E V C K S hz (n32 (by omega)) l0 (by omega) (fun c hc => (hp c hc).2) hfr hlo) (fun P a hp => hp) (fun P a v B hp hq => ?_)
  obtain ⟨L, ⟨q1, q2, q3, q4, q5, q6, q7, ⟨kb, v1, v2⟩, q9⟩, hl, hc, hs⟩ := hq
  exact ⟨L, ⟨q1, fun y hy => by rw [q2 y hy]; exact hx0, q3, q5, q7, h.size, kb, hh0, Nat.le_refl _, Nat.ne_of_gt E.lt, q6, by rw [List.map_map]; exact v2⟩, hl, hc, hs⟩
end StrChars.Road
namespace StrChars
open Jvm Sem ClassFile Op Lib Jvm.Stand Jvm.Free.XT Jvm.Free.ALB Jvm.Free.JM Jvm.Free
open Jvm.Lib.Cold (StaticIs)
def hi8 (x : Int32) : Int32 := lo8 (x >>> ((8 : Int32) &&& 31))
/-- what StringUTF16.getChar makes of two bytes -/
def pairCh (u v : Int32) : Int32 := (((u &&& 255) <<< ((0 : Int32) &&& 31)) ||| ((v &&& 255) <<< ((8 : Int32) &&& 31))).toUInt32.toUInt16.toUInt32.toInt32
theorem shr0 (c : Int32) : c >>> ((0 : Int32) &&& 31) = c := by
  have e : ((0 : Int32) &&& 31) = 0 := by decide
  rw [e]
  apply Int32.toBitVec_inj.mp
  rw [Int32.toBitVec_shiftRight]
  have e1 : ((0 : Int32).toBitVec.smod 32) = 0#32 := by decide
  rw [e1, BitVec.sshiftRight_eq']
  exact BitVec.sshiftRight_zero
theorem lo8_and (x : Int32) : (lo8 x &&& 255).toBitVec.toNat = x.toBitVec.toNat % 256 := by
  have h : (lo8 x).toBitVec = (x.toBitVec.signExtend 8).signExtend 32 := by rw [lo8, Int8.toBitVec_toInt32, Int32.toBitVec_toInt8]
  rw [Int32.toBitVec_and, BitVec.toNat_and, h]
  have e : ((x.toBitVec.signExtend 8).signExtend 32).toNat % 256 = x.toBitVec.toNat % 256 := by
    rw [BitVec.toNat_signExtend]
    have hlt := x.toBitVec.isLt
    simp only [BitVec.toNat_setWidth, BitVec.toNat_signExtend]
    split <;> split <;> omega
  rw [← e]
  exact Nat.and_two_pow_sub_one_eq_mod _ 8
theorem pair_says {c : Int32} (h0 : ¬ c < 0) (h1 : ¬ 65535 < c) : pairCh (lo8 c) (hi8 c) = c := by
  rw [Int32.lt_iff_toInt_lt] at h0 h1
  have e0 : (0 : Int32).toInt = 0 := rfl
  have e1 : (65535 : Int32).toInt = 65535 := rfl
  have hc : c.toInt = c.toBitVec.toNat := by
    have := c.toBitVec.isLt
    have e : c.toInt = c.toBitVec.toInt := rfl
    rw [e] at h0 h1
    rw [e]
    rw [BitVec.toInt_eq_toNat_cond] at h0 h1 ⊢
    split at h0 <;> split <;> omega
  have hn : c.toBitVec.toNat < 65536 := by omega
  have a1 := lo8_and c
  have a2 : (hi8 c &&& 255).toBitVec.toNat = c.toBitVec.toNat / 256 := by
    rw [hi8, lo8_and]
    have e : ((8 : Int32) &&& 31) = 8 := by decide
    rw [e, Int32.toBitVec_shiftRight]
    have e2 : ((8 : Int32).toBitVec.smod 32) = 8#32 := by decide
    rw [e2, BitVec.sshiftRight_eq', BitVec.toNat_sshiftRight_of_msb_false (by rw [BitVec.msb_eq_false_iff_two_mul_lt]; omega)]
    show c.toBitVec.toNat >>> 8 % 256 = _
    rw [Nat.shiftRight_eq_div_pow]
    omega
  unfold pairCh
  apply Int32.toBitVec_inj.mp
  apply BitVec.eq_of_toNat_eq
  have f0 : ((0 : Int32) &&& 31) = 0 := by decide
  have f8 : ((8 : Int32) &&& 31) = 8 := by decide
  rw [f0, f8]
  have g : (((lo8 c &&& 255) <<< (0 : Int32)) ||| ((hi8 c &&& 255) <<< (8 : Int32))).toBitVec.toNat = c.toBitVec.toNat := by
    rw [Int32.toBitVec_or, Int32.toBitVec_shiftLeft, Int32.toBitVec_shiftLeft]
    have s0 : ((0 : Int32).toBitVec.smod 32) = 0#32 := by decide
    have s8 : ((8 : Int32).toBitVec.smod 32) = 8#32 := by decide
    rw [s0, s8, BitVec.toNat_or]
    simp only [BitVec.shiftLeft_eq', BitVec.toNat_shiftLeft, a1, a2]
    show (c.toBitVec.toNat % 256) <<< 0 % 2 ^ 32 ||| (c.toBitVec.toNat / 256) <<< 8 % 2 ^ 32 = _
    rw [Nat.shiftLeft_zero, Nat.mod_eq_of_lt (show c.toBitVec.toNat % 256 < 2 ^ 32 by omega), Nat.mod_eq_of_lt (show (c.toBitVec.toNat / 256) <<< 8 < 2 ^ 32 by rw [Nat.shiftLeft_eq]; omega), Nat.or_comm, ← Nat.shiftLeft_add_eq_or_of_lt (by omega), Nat.shiftLeft_eq]
    omega
  show BitVec.toNat (((((lo8 c &&& 255) <<< (0 : Int32)) ||| ((hi8 c &&& 255) <<< (8 : Int32))).toBitVec.setWidth 16).setWidth 32) = _
  rw [BitVec.toNat_setWidth, BitVec.toNat_setWidth, g]
  omega
end StrChars
namespace StrChars
open Jvm Sem ClassFile Op Lib Jvm.Stand Jvm.Free.XT Jvm.Free.ALB Jvm.Free.JM Jvm.Free
open Jvm.Lib.Cold (StaticIs)
theorem shr1 {n : Nat} (h : 2 * n < 2 ^ 31) : Int32.ofNat (2 * n) >>> ((1 : Int32) &&& 31) = Int32.ofNat n := by
  have e : ((1 : Int32) &&& 31) = 1 := by decide
  rw [e]
  apply Int32.toBitVec_inj.mp
  rw [Int32.toBitVec_shiftRight]
  have e1 : ((1 : Int32).toBitVec.smod 32) = 1#32 := by decide
  have hm : (BitVec.ofNat 32 (2 * n)).toNat = 2 * n := by rw [BitVec.toNat_ofNat, Nat.mod_eq_of_lt (by omega)]
  rw [e1, BitVec.sshiftRight_eq']
  apply BitVec.eq_of_toNat_eq
  show ((BitVec.ofNat 32 (2 * n)).sshiftRight 1).toNat = (BitVec.ofNat 32 n).toNat
  rw [BitVec.toNat_sshiftRight_of_msb_false (by rw [BitVec.msb_eq_false_iff_two_mul_lt, hm]; omega), hm, BitVec.toNat_ofNat, Nat.shiftRight_eq_div_pow]
  omega
/-- charAt's cast of a byte read back -/
def chr8 (u : Int32) : Int32 := (u &&& 255).toUInt32.toUInt16.toUInt32.toInt32
theorem chr8_lo8 {c : Int32} (h0 : ¬ c < 0) (h1 : ¬ 255 < c) : chr8 (lo8 c) = c := by
  have t : ∀ k : Fin 256, (Int32.ofNat k.val).toUInt32.toUInt16.toUInt32.toInt32 = Int32.ofNat k.val := by decide +kernel
  unfold chr8
  rw [lo8_mask h0 h1]
  rw [Int32.lt_iff_toInt_lt] at h0 h1
  have e0 : (0 : Int32).toInt = 0 := rfl
  have e1 : (255 : Int32).toInt = 255 := rfl
  obtain ⟨k, hk⟩ : ∃ k : Nat, c.toInt = k := ⟨c.toInt.toNat, by omega⟩
  have hx : c = Int32.ofNat k := Int32.toInt_inj.mp (by rw [hk, Int32.toInt_ofNat_small (by omega)])
  rw [hx]
  exact t ⟨k, by omega⟩
theorem narrow_ch {c : Int32} (h0 : ¬ c < 0) (h1 : ¬ 65535 < c) : narrow .char (.int c) = .int c := by
  have q : narrow .char (.int (pairCh (lo8 c) (hi8 c))) = .int (pairCh (lo8 c) (hi8 c)) := narrow_c _
  rwa [pair_says h0 h1] at q
/-- the array's cell V codes the n chars f 0 .. f (n - 1) by the coder cd, as the JDK does: coder 1 just where some char is above 255 -/
def Cod (cd : Int32) (n : Nat) (f : Nat → Int32) (V : Cell) : Prop := (cd = 0 ∧ V.slots.size = n ∧ ∀ j, j < n → V.slots[j]? = some (.int (lo8 (f j))) ∧ ¬ 255 < f j) ∨ (cd = 1 ∧ V.slots.size = 2 * n ∧ (∀ j, j < n → V.slots[2 * j]? = some (.int (lo8 (f j))) ∧ V.slots[2 * j + 1]? = some (.int (hi8 (f j)))) ∧ ∃ j, j < n ∧ 255 < f j)
theorem Cod.cd {cd : Int32} {n : Nat} {f : Nat → Int32} {V : Cell} (h : Cod cd n f V) : cd = 0 ∨ cd = 1 := h.imp (fun q => q.1) fun q => q.1
theorem Cod.len {cd : Int32} {n : Nat} {f : Nat → Int32} {V : Cell} (h : Cod cd n f V) (hs : V.slots.size < 2 ^ 31) : Int32.ofNat V.slots.size >>> (cd &&& 31) = Int32.ofNat n := by
  rcases h with ⟨rfl, h, -⟩ | ⟨rfl, h, -⟩
  · rw [shr0, h]
  · rw [h, shr1 (by omega)]
/-- **x is a String of the n chars f 0 .. f (n - 1)**, Latin-1 or UTF-16; its array at t has the cell V -/
def Txt (x t : Addr) (V : Cell) (cd : Int32) (n : Nat) (f : Nat → Int32) (U : State) : Prop := Exact "java/lang/String" x U ∧ Has x "java/lang/String" "value" "[B" (.ref t) U ∧ Has x "java/lang/String" "coder" "B" (.int cd) U ∧ XT.Arr .byte t V U ∧ Cod cd n f V ∧ ∀ j, j < n → ¬ f j < 0 ∧ ¬ 65535 < f j
theorem Txt.mv {x t : Addr} {V : Cell} {cd : Int32} {n : Nat} {f : Nat → Int32} {U U' : State} (h : Txt x t V cd n f U) (hal : U.vm.Alike U'.vm) (hh : U'.heap = U.heap) : Txt x t V cd n f U' := ⟨h.1.mv hal hh, h.2.1.mv hal hh, h.2.2.1.mv hal hh, h.2.2.2.1.mv hal hh, h.2.2.2.2⟩
namespace Cdr
def yN : MethodName := ⟨"java/lang/String", "coder", "()B"⟩
abbrev yB : ByteArray := jdk_42_method_152_code
theorem d0 : decode yB 0 = .ok (.getstatic 38, 3) := by decide +kernel
theorem d3 : decode yB 3 = .ok (.ifCond (.eq) 10, 3) := by decide +kernel
theorem d6 : decode yB 6 = .ok (.aload_n 0, 1) := by decide +kernel
theorem d7 : decode yB 7 = .ok (.getfield 15, 3) := by decide +kernel
theorem d10 : decode yB 10 = .ok (.goto 4, 3) := by decide +kernel
theorem d14 : decode yB 14 = .ok (.ireturn, 1) := by decide +kernel
def site : List Cond := [.fieldLink "java/lang/String" 38 "java/lang/String" "COMPACT_STRINGS" "Z", .fieldLink "java/lang/String" 15 "java/lang/String" "coder" "B"]
def tab : Cond := tabOf yN yB 1 (some .byte) site
def P (x : Addr) (cd z : Int32) (args : Array Value) (s : State) : Prop := args = #[.ref x] ∧ Has x "java/lang/String" "coder" "B" (.int cd) s ∧ (cd = 0 ∨ cd = 1) ∧ StaticIs s "java/lang/String" "COMPACT_STRINGS" "Z" (.int z) ∧ ¬ z = 0
def E (cd : Int32) (r : Option Value) (s u : State) : Prop := XT.PureE (some (.int cd)) r s u
theorem law (l : Launch) (x : Addr) (cd z : Int32) : Law l yN 1 0 0 0 yB 1 (some .byte) site (P x cd z) (E cd) [] 0 0 := by
  refine Law.of_walk (plainFor_of_name (by decide +kernel)) (by decide +kernel) (by decide +kernel) (by decide) (fun _ _ h => by rw [h.1]; rfl) (fun _ U U' hal hh h => ⟨h.1, h.2.1.mv hal hh, h.2.2.1, h.2.2.2.1.there hal hh, h.2.2.2.2⟩) (fun r U U' V V' h1 hal h2 h => XT.PureE.mv r U U' V V' h1 hal h2 h) ?_
  intro p e s m args below meth c s₁ X0 hexec hbytes hml hret hlk hnm hown hh0 W hP
  obtain ⟨rfl, hx, hc, s1, hz⟩ := hP
  have c1 : Steps p.tables e below (s₁.setTop (entryFrame m #[.ref x] 1)) (s₁.setTop (mkF m 0 #[.val (.ref x)] [])) := entry rfl
  obtain ⟨T2, X2, q2, st2⟩ := X0.sget hexec hown (wk W (.fieldLink "java/lang/String" 38 "java/lang/String" "COMPACT_STRINGS" "Z")) s1 (fun _ _ h => by rw [hh0]; exact h) (g := (mkF m 0 #[.val (.ref x)] [])) rfl (hb hbytes d0)
  have hh2 := q2.trans hh0
  have c3 : Steps p.tables e below (s₁.setTop (entryFrame m #[.ref x] 1)) (T2.setTop (mkF m 7 #[.val (.ref x)] [.ref x])) := (c1.trans (st2 _ (Steps.refl _))).trans (by
    refine XS.ifNo X2.here hexec rfl (hb hbytes d3) rfl (i0_eq_f hz) ?_
    refine XS.aloadN X2.here hexec rfl (hb hbytes d6) rfl rfl ?_
    exact Steps.refl _)
  obtain ⟨T4, X4, q4, st4⟩ := X2.hget hexec hown (wk W (.fieldLink "java/lang/String" 15 "java/lang/String" "coder" "B")) (hx.mv X2.warmed.alike hh2) (g := (mkF m 7 #[.val (.ref x)] [.ref x])) rfl (rest := []) rfl (hb hbytes d7)
  have c5 : Steps p.tables e below (s₁.setTop (entryFrame m #[.ref x] 1)) (T4.setTop (mkF m 14 #[.val (.ref x)] [.int cd])) := (c3.trans (st4 _ (Steps.refl _))).trans (by
    refine XS.goto X4.here hexec rfl (pc0 := 10) rfl (hb hbytes d10) (by decide) rfl ?_
    exact Steps.refl _)
  exact ⟨T4, some (.int cd), _, _, _, X4, rfl, rfl, rfl, (fun h => by cases h), ⟨rfl, q4.trans hh2⟩, fun fs hl => c5.trans (X4.ireturnOut hexec hret (by rcases hc with rfl | rfl <;> rfl) (Or.inr (Or.inr (Or.inl rfl))) (hb hbytes d14) hl)⟩
end Cdr
namespace Len
def yN : MethodName := ⟨"java/lang/String", "length", "()I"⟩
abbrev yB : ByteArray := jdk_42_method_54_code
theorem d0 : decode yB 0 = .ok (.aload_n 0, 1) := by decide +kernel
theorem d1 : decode yB 1 = .ok (.getfield 9, 3) := by decide +kernel
theorem d4 : decode yB 4 = .ok (.arraylength, 1) := by decide +kernel
theorem d5 : decode yB 5 = .ok (.aload_n 0, 1) := by decide +kernel
theorem d6 : decode yB 6 = .ok (.invokevirtual 335, 3) := by decide +kernel
theorem d9 : decode yB 9 = .ok (.ishr, 1) := by decide +kernel
theorem d10 : decode yB 10 = .ok (.ireturn, 1) := by decide +kernel
def site : List Cond := [.fieldLink "java/lang/String" 9 "java/lang/String" "value" "[B", Cdr.tab] ++ virtW "java/lang/String" 335 "java/lang/String" Cdr.yN Cdr.yN
def tab : Cond := tabOf yN yB 1 (some .int) site
def P (x t : Addr) (V : Cell) (cd : Int32) (n : Nat) (f : Nat → Int32) (z : Int32) (args : Array Value) (s : State) : Prop := args = #[.ref x] ∧ Txt x t V cd n f s ∧ StaticIs s "java/lang/String" "COMPACT_STRINGS" "Z" (.int z) ∧ ¬ z = 0
def E (n : Nat) (r : Option Value) (s u : State) : Prop := XT.PureE (some (.int (Int32.ofNat n))) r s u
/-- length() of a String of n chars, in either coding -/
theorem law (l : Launch) (x t : Addr) (V : Cell) (cd : Int32) (n : Nat) (f : Nat → Int32) (z : Int32) : Law l yN 1 0 1 13 yB 1 (some .int) site (P x t V cd n f z) (E n) [] 0 0 := by
  refine Law.of_walk (plainFor_of_name (by decide +kernel)) (by decide +kernel) (by decide +kernel) (by decide) (fun _ _ h => by rw [h.1]; rfl) (fun _ U U' hal hh h => ⟨h.1, h.2.1.mv hal hh, h.2.2.1.there hal hh, h.2.2.2⟩) (fun r U U' V V' h1 hal h2 h => XT.PureE.mv r U U' V V' h1 hal h2 h) ?_
  intro p e s m args below meth c s₁ X0 hexec hbytes hml hret hlk hnm hown hh0 W hP
  obtain ⟨rfl, hx, s1, hz⟩ := hP
  have v31 := hx.2.2.2.1.2.2.2
  have c1 : Steps p.tables e below (s₁.setTop (entryFrame m #[.ref x] 1)) (s₁.setTop (mkF m 1 #[.val (.ref x)] [.ref x])) := Steps.trans (entry rfl) (by
    show Steps p.tables e below (s₁.setTop (mkF m 0 #[.val (.ref x)] [])) _
    refine XS.aloadN X0.here hexec rfl (hb hbytes d0) rfl rfl ?_
    exact Steps.refl _)
  obtain ⟨T2, X2, q2, st2⟩ := X0.hget hexec hown (wk W (.fieldLink "java/lang/String" 9 "java/lang/String" "value" "[B")) (hx.mv X0.warmed.alike hh0).2.1 (g := (mkF m 1 #[.val (.ref x)] [.ref x])) rfl (rest := []) rfl (hb hbytes d1)
  have hh2 := q2.trans hh0
  have hx2 := hx.mv X2.warmed.alike hh2
  have c3 : Steps p.tables e below (s₁.setTop (entryFrame m #[.ref x] 1)) (T2.setTop (mkF m 6 #[.val (.ref x)] [.ref x, .int (Int32.ofNat V.slots.size)])) := (c1.trans (st2 _ (Steps.refl _))).trans (by
    refine X2.alen hexec hx2.2.2.2.1 rfl rfl (hb hbytes d4) ?_
    refine XS.aloadN X2.here hexec rfl (hb hbytes d5) rfl rfl ?_
    exact Steps.refl _)
  obtain ⟨v4, T4, X4, E4, g4⟩ := X2.callV hexec (Cdr.law l x cd z) hown (wks W (virtW "java/lang/String" 335 "java/lang/String" Cdr.yN Cdr.yN)) rfl (by decide) (wk W Cdr.tab) (W := 1) (Nat.le_of_ble_eq_true rfl) (Nat.le_of_ble_eq_true rfl) (Nat.le_refl _) (Nat.le_refl _) (hx2.1.fc X2.warmed.alike) hx2.1.is (g := (mkF m 6 #[.val (.ref x)] [.ref x, .int (Int32.ofNat V.slots.size)])) rfl (by rw [hml]; rfl) c3 (argsL := []) (rest := [.int (Int32.ofNat V.slots.size)]) rfl rfl (by show 2 * 0 + (1 + 0) ≤ _; decide) (hb hbytes d6) (⟨rfl, hx2.2.2.1, hx.2.2.2.2.1.cd, s1.there X2.warmed.alike hh2, hz⟩)
  obtain ⟨rfl, q4⟩ := E4
  have c5 : Steps p.tables e below (s₁.setTop (entryFrame m #[.ref x] 1)) (T4.setTop (mkF m 10 #[.val (.ref x)] [.int (Int32.ofNat V.slots.size >>> (cd &&& 31))])) := Steps.trans g4 (by
    refine ishr X4.here hexec rfl (hb hbytes d9) rfl ?_
    exact Steps.refl _)
  rw [hx.2.2.2.2.1.len v31] at c5
  exact ⟨T4, some (.int (Int32.ofNat n)), _, _, _, X4, rfl, rfl, rfl, (fun h => by cases h), ⟨rfl, q4.trans hh2⟩, fun fs hl => c5.trans (X4.ireturnOut hexec hret rfl (Or.inl rfl) (hb hbytes d10) hl)⟩
theorem pays {l : Launch} {R : Room} {p : Program} {e : Env} {below : List Frame} {s : State} {sargs : Array Value} {len W : Nat} (x t : Addr) (V : Cell) (cd : Int32) (n : Nat) (f : Nat → Int32) (z : Int32) (htab : tab.before sargs s = true) (hfr : 2 ≤ R.frames) (hlo : W + 25 ≤ R.locals) :
    Back l R p e below s sargs yN len W (fun A₁ a₁ => A₁.cells + 0 ≤ R.cells ∧ A₁.slots + 0 ≤ R.slots ∧ P x t V cd n f z a₁ A₁.U) (fun A₁ _ v₁ B₁ => E n v₁ A₁.U B₁.U ∧ B₁.locs = A₁.locs ++ [] ∧ B₁.cells = A₁.cells + 0 ∧ B₁.slots = A₁.slots + 0) :=
  (law l x t V cd n f z).pays htab hfr (by omega)
end Len
namespace IsL
def yN : MethodName := ⟨"java/lang/String", "isLatin1", "()Z"⟩
abbrev yB : ByteArray := jdk_42_method_154_code
theorem d0 : decode yB 0 = .ok (.getstatic 38, 3) := by decide +kernel
theorem d3 : decode yB 3 = .ok (.ifCond (.eq) 14, 3) := by decide +kernel
theorem d6 : decode yB 6 = .ok (.aload_n 0, 1) := by decide +kernel
theorem d7 : decode yB 7 = .ok (.getfield 15, 3) := by decide +kernel
theorem d10 : decode yB 10 = .ok (.ifCond (.ne) 7, 3) := by decide +kernel
theorem d13 : decode yB 13 = .ok (.iconst 1, 1) := by decide +kernel
theorem d14 : decode yB 14 = .ok (.goto 4, 3) := by decide +kernel
theorem d17 : decode yB 17 = .ok (.iconst 0, 1) := by decide +kernel
theorem d18 : decode yB 18 = .ok (.ireturn, 1) := by decide +kernel
def site : List Cond := [.fieldLink "java/lang/String" 38 "java/lang/String" "COMPACT_STRINGS" "Z", .fieldLink "java/lang/String" 15 "java/lang/String" "coder" "B"]
def tab : Cond := tabOf yN yB 1 (some .boolean) site
def P (x : Addr) (cd z : Int32) (args : Array Value) (s : State) : Prop := args = #[.ref x] ∧ Has x "java/lang/String" "coder" "B" (.int cd) s ∧ (cd = 0 ∨ cd = 1) ∧ StaticIs s "java/lang/String" "COMPACT_STRINGS" "Z" (.int z) ∧ ¬ z = 0
def E (cd : Int32) (r : Option Value) (s u : State) : Prop := XT.PureE (some (.int (1 - cd))) r s u
theorem law (l : Launch) (x : Addr) (cd z : Int32) : Law l yN 1 0 0 0 yB 1 (some .boolean) site (P x cd z) (E cd) [] 0 0 := by
  refine Law.of_walk (plainFor_of_name (by decide +kernel)) (by decide +kernel) (by decide +kernel) (by decide) (fun _ _ h => by rw [h.1]; rfl) (fun _ U U' hal hh h => ⟨h.1, h.2.1.mv hal hh, h.2.2.1, h.2.2.2.1.there hal hh, h.2.2.2.2⟩) (fun r U U' V V' h1 hal h2 h => XT.PureE.mv r U U' V V' h1 hal h2 h) ?_
  intro p e s m args below meth c s₁ X0 hexec hbytes hml hret hlk hnm hown hh0 W hP
  obtain ⟨rfl, hx, hc, s1, hz⟩ := hP
  have c1 : Steps p.tables e below (s₁.setTop (entryFrame m #[.ref x] 1)) (s₁.setTop (mkF m 0 #[.val (.ref x)] [])) := entry rfl
  obtain ⟨T2, X2, q2, st2⟩ := X0.sget hexec hown (wk W (.fieldLink "java/lang/String" 38 "java/lang/String" "COMPACT_STRINGS" "Z")) s1 (fun _ _ h => by rw [hh0]; exact h) (g := (mkF m 0 #[.val (.ref x)] [])) rfl (hb hbytes d0)
  have hh2 := q2.trans hh0
  have c3 : Steps p.tables e below (s₁.setTop (entryFrame m #[.ref x] 1)) (T2.setTop (mkF m 7 #[.val (.ref x)] [.ref x])) := (c1.trans (st2 _ (Steps.refl _))).trans (by
    refine XS.ifNo X2.here hexec rfl (hb hbytes d3) rfl (i0_eq_f hz) ?_
    refine XS.aloadN X2.here hexec rfl (hb hbytes d6) rfl rfl ?_
    exact Steps.refl _)
  obtain ⟨T4, X4, q4, st4⟩ := X2.hget hexec hown (wk W (.fieldLink "java/lang/String" 15 "java/lang/String" "coder" "B")) (hx.mv X2.warmed.alike hh2) (g := (mkF m 7 #[.val (.ref x)] [.ref x])) rfl (rest := []) rfl (hb hbytes d7)
  have c5 : Steps p.tables e below (s₁.setTop (entryFrame m #[.ref x] 1)) (T4.setTop (mkF m 10 #[.val (.ref x)] [.int cd])) := c3.trans (st4 _ (Steps.refl _))
  have c6 : Steps p.tables e below (s₁.setTop (entryFrame m #[.ref x] 1)) (T4.setTop (mkF m 18 #[.val (.ref x)] [.int (1 - cd)])) := by
    rcases hc with rfl | rfl
    · exact c5.trans (by
        refine XS.ifNo X4.here hexec rfl (hb hbytes d10) rfl (i0_ne_f rfl) ?_
        refine iconstV X4.here hexec rfl 1 (hb hbytes d13) (by decide) ?_
        refine XS.goto X4.here hexec rfl (pc0 := 14) rfl (hb hbytes d14) (by decide) rfl ?_
        exact Steps.refl _)
    · exact c5.trans (by
        refine XS.ifYes X4.here hexec rfl (pc0 := 10) rfl (hb hbytes d10) rfl (i0_ne_t (by decide)) (by decide) rfl ?_
        refine iconstV X4.here hexec rfl 0 (hb hbytes d17) (by decide) ?_
        exact Steps.refl _)
  exact ⟨T4, some (.int (1 - cd)), _, _, _, X4, rfl, rfl, rfl, (fun h => by cases h), ⟨rfl, q4.trans hh2⟩, fun fs hl => c6.trans (X4.ireturnOut hexec hret (by rcases hc with rfl | rfl <;> rfl) (Or.inr (Or.inl rfl)) (hb hbytes d18) hl)⟩
end IsL
namespace LChA
def yN : MethodName := ⟨"java/lang/StringLatin1", "charAt", "([BI)C"⟩
abbrev yB : ByteArray := jdk_43_method_2_code
theorem d0 : decode yB 0 = .ok (.iload_n 1, 1) := by decide +kernel
theorem d1 : decode yB 1 = .ok (.aload_n 0, 1) := by decide +kernel
theorem d2 : decode yB 2 = .ok (.arraylength, 1) := by decide +kernel
theorem d3 : decode yB 3 = .ok (.invokestatic 9, 3) := by decide +kernel
theorem d6 : decode yB 6 = .ok (.aload_n 0, 1) := by decide +kernel
theorem d7 : decode yB 7 = .ok (.iload_n 1, 1) := by decide +kernel
theorem d8 : decode yB 8 = .ok (.baload, 1) := by decide +kernel
theorem d9 : decode yB 9 = .ok (.sipush 255, 3) := by decide +kernel
theorem d12 : decode yB 12 = .ok (.iand, 1) := by decide +kernel
theorem d13 : decode yB 13 = .ok (.i2c, 1) := by decide +kernel
theorem d14 : decode yB 14 = .ok (.ireturn, 1) := by decide +kernel
def site : List Cond := [JO.Str_checkIndex.tab] ++ staticW "java/lang/StringLatin1" 9 JO.Str_checkIndex.yN
def tab : Cond := tabOf yN yB 2 (some .char) site
def P (t : Addr) (V : Cell) (i : Nat) (u : Int32) (fm : Value) (args : Array Value) (s : State) : Prop := args = #[.ref t, .int (Int32.ofNat i)] ∧ XT.Arr .byte t V s ∧ V.slots[i]? = some (.int u) ∧ (StaticIs s "jdk/internal/util/Preconditions" "SIOOBE_FORMATTER" "Ljava/util/function/BiFunction;" fm ∧ fm.isRef = true)
def E (u : Int32) (r : Option Value) (s w : State) : Prop := XT.PureE (some (.int (chr8 u))) r s w
theorem law (l : Launch) (t : Addr) (V : Cell) (i : Nat) (u : Int32) (fm : Value) : Law l yN 2 2 2 27 yB 2 (some .char) site (P t V i u fm) (E u) [] 0 0 := by
  refine Law.of_walk (plainFor_of_name (by decide +kernel)) (by decide +kernel) (by decide +kernel) (by decide) (fun _ _ h => by rw [h.1]; rfl) (fun _ U U' hal hh h => ⟨h.1, h.2.1.mv hal hh, h.2.2.1, h.2.2.2.1.there hal hh, h.2.2.2.2⟩) (fun r U U' V V' h1 hal h2 h => XT.PureE.mv r U U' V V' h1 hal h2 h) ?_
  intro p e s m args below meth c s₁ X0 hexec hbytes hml hret hlk hnm hown hh0 W hP
  obtain ⟨rfl, hV, hu, s1, rf⟩ := hP
  have v31 := hV.2.2.2
  have hi : i < V.slots.size := (Array.getElem?_eq_some_iff.mp hu).1
  have c1 : Steps p.tables e below (s₁.setTop (entryFrame m #[.ref t, .int (Int32.ofNat i)] 2)) (s₁.setTop (mkF m 0 #[.val (.ref t), .val (.int (Int32.ofNat i))] [])) := entry rfl
  have c2 : Steps p.tables e below (s₁.setTop (entryFrame m #[.ref t, .int (Int32.ofNat i)] 2)) (s₁.setTop (mkF m 3 #[.val (.ref t), .val (.int (Int32.ofNat i))] [.int (Int32.ofNat V.slots.size), .int (Int32.ofNat i)])) := c1.trans (by
    refine XS.iloadN X0.here hexec rfl (hb hbytes d0) rfl ?_
    refine XS.aloadN X0.here hexec rfl (hb hbytes d1) rfl rfl ?_
    refine X0.alen hexec (hV.mv X0.warmed.alike hh0) rfl rfl (hb hbytes d2) ?_
    exact Steps.refl _)
  obtain ⟨v3, T3, X3, E3, g3⟩ := X0.callS hexec (JO.Str_checkIndex.law l (Int32.ofNat i) (Int32.ofNat V.slots.size) fm) hown (wks W (staticW "java/lang/StringLatin1" 9 JO.Str_checkIndex.yN)) (wk W JO.Str_checkIndex.tab) (W := 0) (Nat.le_of_ble_eq_true rfl) (Nat.le_of_ble_eq_true rfl) (Nat.le_refl _) (Nat.le_refl _) (g := (mkF m 3 #[.val (.ref t), .val (.int (Int32.ofNat i))] [.int (Int32.ofNat V.slots.size), .int (Int32.ofNat i)])) rfl (by rw [hml]; rfl) c2 (argsL := [.int (Int32.ofNat i), .int (Int32.ofNat V.slots.size)]) (rest := []) rfl rfl (by show 2 * 0 + 0 ≤ _; decide) (hb hbytes d3) (⟨rfl, rf, s1.there X0.warmed.alike hh0, Int32.ofNat_not_neg (by omega), lt32 v31 hi⟩)
  obtain ⟨rfl, q3⟩ := E3
  have hh3 := q3.trans hh0
  have c4 : Steps p.tables e below (s₁.setTop (entryFrame m #[.ref t, .int (Int32.ofNat i)] 2)) (T3.setTop (mkF m 14 #[.val (.ref t), .val (.int (Int32.ofNat i))] [.int (chr8 u)])) := Steps.trans g3 (by
    refine XS.aloadN X3.here hexec rfl (hb hbytes d6) rfl rfl ?_
    refine XS.iloadN X3.here hexec rfl (hb hbytes d7) rfl ?_
    refine X3.aget hexec (hV.mv X3.warmed.alike hh3) rfl hu rfl rfl (hb hbytes d8) ?_
    refine sipushV X3.here hexec rfl 255 (hb hbytes d9) (by decide) ?_
    refine XS.iand X3.here hexec rfl (hb hbytes d12) rfl ?_
    refine i2c X3.here hexec rfl (hb hbytes d13) rfl ?_
    exact Steps.refl _)
  exact ⟨T3, some (.int (chr8 u)), _, _, _, X3, rfl, rfl, rfl, (fun h => by cases h), ⟨rfl, hh3⟩, fun fs hl => c4.trans (X3.ireturnOut hexec hret (narrow_c _) (Or.inr (Or.inr (Or.inr (Or.inl rfl)))) (hb hbytes d14) hl)⟩
end LChA
end StrChars
namespace StrChars.Road
open Jvm Sem ClassFile Op Lib Jvm.Stand Jvm.Free Jvm.Free.XT
open Jvm.Lib.Cold (StaticIs)
theorem consq {a : Array Value} {s : State} {c : Jvm.Cond} {L : List Jvm.Cond} (h0 : c.before a s = true) (h : ∀ w ∈ L, w.before a s = true) : ∀ w ∈ c :: L, w.before a s = true := fun w hw => (List.mem_cons.mp hw).elim (fun e => e ▸ h0) (h w)
/-- the words of String.length(), either coding -/
abbrev wordsLen : List Jvm.Cond := [.code Len.yN Len.yB 1 (some .int), .initialized ST, .fieldLink ST 9 ST "value" "[B", .fieldLink ST 38 ST "COMPACT_STRINGS" "Z", .fieldLink ST 15 ST "coder" "B", .code Cdr.yN Cdr.yB 1 (some .byte), .methodLink ST 335 Cdr.yN, .declares Cdr.yN, .selects ST Cdr.yN Cdr.yN, .instanceMethod Cdr.yN]
theorem tabLen_of {a : Array Value} {s : State} (h : ∀ w ∈ wordsLen, w.before a s = true) : Len.tab.before a s = true := by
  have hc : Cdr.tab.before a s = true := unparts (wk h (.code Cdr.yN Cdr.yB 1 (some .byte))) (wks h (.initialized Cdr.yN.cls :: Cdr.site))
  have q := consq hc h
  exact unparts (wk q (.code Len.yN Len.yB 1 (some .int))) (wks q (.initialized Len.yN.cls :: Len.site))
theorem movedLen {Z s : State} {a0 args : Array Value} (hZ : Z.Warmed39 s.vm) (hw : ∀ d ∈ wordsLen, d.before a0 Z = true) : ∀ d ∈ wordsLen, d.before args s = true := fun d hd => by
  have q := hw d hd
  have t : ∀ d ∈ wordsLen, d = .arrayClass .byte ∨ (d.onTables && d.keepsFace) = true := by decide +kernel
  rcases t d hd with rfl | t
  · exact RoadKit.mvA hZ q
  · exact RoadKit.mv hZ q t
/-- the bytes of the chars cs, low before high -/
def wideBytes : List Int32 → List Value
  | [] => []
  | c :: cs => .int (lo8 c) :: .int (hi8 c) :: wideBytes cs
theorem wide_lo (d : Value) : ∀ (cs : List Int32) (j : Nat), j < cs.length → (wideBytes cs).getD (2 * j) d = .int (lo8 (cs.getD j 0))
  | [], j, h => absurd h (Nat.not_lt_zero j)
  | c :: cs, 0, _ => rfl
  | c :: cs, j + 1, h => by
    have q := wide_lo d cs j (by simpa using h)
    rw [show 2 * (j + 1) = 2 * j + 1 + 1 from by omega]
    simpa [wideBytes] using q
theorem wide_hi (d : Value) : ∀ (cs : List Int32) (j : Nat), j < cs.length → (wideBytes cs).getD (2 * j + 1) d = .int (hi8 (cs.getD j 0))
  | [], j, h => absurd h (Nat.not_lt_zero j)
  | c :: cs, 0, _ => rfl
  | c :: cs, j + 1, h => by
    have q := wide_hi d cs j (by simpa using h)
    rw [show 2 * (j + 1) + 1 = 2 * j + 1 + 1 + 1 from by omega]
    simpa [wideBytes] using q
theorem low_at (d : Value) (cs : List Int32) (j : Nat) (h : j < cs.length) : (cs.map fun c => Value.int (lo8 c)).getD j d = .int (lo8 (cs.getD j 0)) := by
  simp [List.getD_eq_getElem?_getD, h]
/-- an array of N2 bytes vs codes the chars cs by the coder cd -/
def CodA (cs : List Int32) (cd N2 : Int32) (vs : List Value) : Prop := (cd = 0 ∧ N2 = Int32.ofNat cs.length ∧ vs = (cs.map fun c => Value.int (lo8 c)) ∧ ∀ c ∈ cs, ¬ 255 < c) ∨ (cd = 1 ∧ N2 = Int32.ofNat (2 * cs.length) ∧ vs = wideBytes cs ∧ ∃ c ∈ cs, 255 < c)
theorem CodA.cod {cs : List Int32} {cd N2 : Int32} {vs : List Value} {V : Cell} (h : CodA cs cd N2 vs) (hn : 2 * cs.length < 2 ^ 31) (hs : V.slots.size = N2.toNatClampNeg) (hv : RoadKit.Has V vs (.int 0)) : Cod cd cs.length (fun j => cs.getD j 0) V := by
  rcases h with ⟨rfl, rfl, rfl, h⟩ | ⟨rfl, rfl, rfl, c, hc, hw⟩
  · rw [n32 (by omega)] at hs
    exact Or.inl ⟨rfl, hs, fun j hj => ⟨by rw [hv j (by omega), low_at _ _ _ hj], by
      have e : cs.getD j 0 = cs[j] := by simp [List.getD_eq_getElem?_getD, hj]
      show ¬ 255 < cs.getD j 0
      rw [e]; exact h _ (List.getElem_mem _)⟩⟩
  · rw [n32 (by omega)] at hs
    obtain ⟨j, hj, rfl⟩ := List.getElem_of_mem hc
    exact Or.inr ⟨rfl, hs, fun j hj => ⟨by rw [hv _ (by omega), wide_lo _ _ _ hj], by rw [hv _ (by omega), wide_hi _ _ _ hj]⟩, j, hj, by
      have e : cs.getD j 0 = cs[j] := by simp [List.getD_eq_getElem?_getD, hj]
      show 255 < cs.getD j 0
      rw [e]; exact hw⟩
/-- an object of exactly java/lang/String, its two fields found: as the laws ask it -/
theorem strObj {Z U : State} {a0 : Array Value} {kI : Nat} (wi : (Jvm.Cond.instantiable ST kI).before a0 Z = true) (al : Z.vm.Alike U.vm) {x : Addr} {v0 c0 : Value} (E : RoadKit.Exa Z U.heap x ST) (V : RoadKit.Fld Z U.heap x ST "value" "[B" v0) (C : RoadKit.Fld Z U.heap x ST "coder" "B" c0) :
    ∃ (D : Cell) (fV fC : Field), Blank ST x D U ∧ Found ST "value" "[B" fV U ∧ Found ST "coder" "B" fC U ∧ D.slots[fV.slot]? = some v0 ∧ D.slots[fC.slot]? = some c0 ∧ RoadKit.slotOf Z ST "value" "[B" = fV.slot ∧ RoadKit.slotOf Z ST "coder" "B" = fC.slot := by
  obtain ⟨D, cfV, kV, iV, fV, hD, gV, stV, knV, obV, asV, slV⟩ := V
  obtain ⟨D', cfC, kC, iC, fC, hD', gC, stC, -, -, asC, slC⟩ := C
  cases hD.symm.trans hD'
  obtain ⟨D2, kD, e1, e2, e3, e4, e5⟩ := E
  cases hD.symm.trans e1
  obtain ⟨c2, k2, i1, i2, i3, -⟩ := Cond.instantiable_spec wi
  cases e2.symm.trans i1
  cases e3.symm.trans i2
  obtain ⟨kU, u1, u2⟩ := al.2.2 _ _ e3
  exact ⟨D, fV, fC, ⟨hD, ⟨knV, fun q hq => by rw [hq] at obV; cases obV⟩, by rw [al.findClass]; exact e2, kU, u1, by rw [u2]; exact i3, by rw [u2]; exact e5 i3⟩, ⟨SBG.found_only al ⟨cfV, kV, iV, gV⟩, stV⟩, ⟨SBG.found_only al ⟨cfC, kC, iC, gC⟩, stC⟩, slV, slC, by simp [RoadKit.slotOf, gV], by simp [RoadKit.slotOf, gC]⟩
theorem sta_is {Z U : State} (al : Z.vm.Alike U.vm) {C n d : String} {v : Value} (S : RoadKit.Sta Z U.heap C n d v) : StaticIs U C n d v := by
  obtain ⟨cfS, iS, kS, fS, st, cS, t1, t2, t3, t4, t5, t6, t7⟩ := S
  exact StaticIs.there (s := { Z with heap := U.heap }) ⟨cfS, iS, kS, fS, st, cS, t1, t2, t3, t4, t5, (fun q => by rw [q] at t6; cases t6), t7⟩ al rfl
/-- **length() OF SUCH A STRING** -/
theorem lenW {p : Program} {l : Launch} {e : Env} {R : Room} {s : State} {args : Array Value} {below : List Frame} {len W : Nat} {Z : State} {a0 : Array Value} {h : Heap} (hZ : Z.Warmed39 s.vm) (hw : ∀ d ∈ wordsLen, d.before a0 Z = true) {kI : Nat} (wi : (Jvm.Cond.instantiable ST kI).before a0 Z = true)
    {x t : Addr} {kb : ClassId} {cs : List Int32} {cd N2 z : Int32} {vs : List Value} (E : RoadKit.Exa Z h x ST) (V : RoadKit.Fld Z h x ST "value" "[B" (.ref t)) (C : RoadKit.Fld Z h x ST "coder" "B" (.int cd)) (K : RoadKit.Arv Z h t kb .byte N2 vs (.int 0)) (hc : CodA cs cd N2 vs) (hb : ∀ c ∈ cs, ¬ c < 0 ∧ ¬ (65535 : Int32) < c)
    (S : RoadKit.Sta Z h ST "COMPACT_STRINGS" "Z" (.int z)) (hz : ¬ z = 0) (l2 : cs.length ≤ 4000) (hfr : 2 ≤ R.frames) (hlo : W + 25 ≤ R.locals) :
    Back l R p e below s args (⟨"java/lang/String", "length", "()I"⟩ : MethodName) len W (fun P a => a = #[.ref x] ∧ P.U.heap = h ∧ P.cells + 0 ≤ R.cells ∧ P.slots + 0 ≤ R.slots)
      (fun P _ v B => ∃ L, (v = some (.int (Int32.ofNat cs.length)) ∧ L = [] ∧ B.U.heap = h) ∧ B.locs = P.locs ++ L ∧ B.cells = P.cells + 0 ∧ B.slots = P.slots + 0) := by
  obtain ⟨A, K1, K2, K3, K4, K5, K6⟩ := K
  have hcod := hc.cod (by omega) K3 K5
  intro m meth c P g ig mk a X hg hsize hdg hW hn hp'
  obtain ⟨rfl, rfl, r1, r2⟩ := hp'
  have al : Z.vm.Alike P.U.vm := hZ.alike.trans X.warmed.alike
  obtain ⟨D, fV, fC, hB, F1, F2, g1, g2, -, -⟩ := strObj wi al E V C
  have hx : Txt x t A cd cs.length (fun j => cs.getD j 0) P.U := ⟨⟨_, hB.2.2.1, D, hB.1, rfl, by cases q : D.vm <;> first | rfl | exact absurd q (hB.2.1.2 _)⟩, Has.of hB F1 g1, Has.of hB F2 g2, ⟨K1.1, State.isArrayOf_alike al K1.2.1, K1.2.2, by rcases hcod with ⟨-, q, -⟩ | ⟨-, q, -⟩ <;> omega⟩, hcod, fun j hj => by
    have e : cs.getD j 0 = cs[j] := by simp [List.getD_eq_getElem?_getD, hj]
    show ¬ cs.getD j 0 < 0 ∧ ¬ 65535 < cs.getD j 0
    rw [e]; exact hb _ (List.getElem_mem _)⟩
  obtain ⟨v, B, X', ⟨⟨hv, hh⟩, hl, hk, hs⟩, st⟩ := Len.pays x t A cd cs.length (fun j => cs.getD j 0) z (tabLen_of (movedLen hZ hw)) hfr hlo m meth c P g ig mk _ X hg hsize hdg hW hn ⟨r1, r2, rfl, hx, sta_is al S, hz⟩
  exact ⟨v, B, X', ⟨[], ⟨hv, rfl, hh⟩, hl, hk, hs⟩, st⟩
end StrChars.Road
namespace StrChars
open Jvm Sem ClassFile Op Lib Jvm.Stand Jvm.Free.XT Jvm.Free.ALB Jvm.Free.JM Jvm.Free
open Jvm.Lib.Cold (StaticIs)
namespace Emp
def yN : MethodName := ⟨"java/lang/String", "isEmpty", "()Z"⟩
abbrev yB : ByteArray := jdk_42_method_55_code
theorem d0 : decode yB 0 = .ok (.aload_n 0, 1) := by decide +kernel
theorem d1 : decode yB 1 = .ok (.getfield 9, 3) := by decide +kernel
theorem d4 : decode yB 4 = .ok (.arraylength, 1) := by decide +kernel
theorem d5 : decode yB 5 = .ok (.ifCond (.ne) 7, 3) := by decide +kernel
theorem d8 : decode yB 8 = .ok (.iconst 1, 1) := by decide +kernel
theorem d9 : decode yB 9 = .ok (.goto 4, 3) := by decide +kernel
theorem d12 : decode yB 12 = .ok (.iconst 0, 1) := by decide +kernel
theorem d13 : decode yB 13 = .ok (.ireturn, 1) := by decide +kernel
def site : List Cond := [.fieldLink "java/lang/String" 9 "java/lang/String" "value" "[B"]
def tab : Cond := tabOf yN yB 1 (some .boolean) site
def P (x t : Addr) (V : Cell) (cd : Int32) (n : Nat) (f : Nat → Int32) (args : Array Value) (s : State) : Prop := args = #[.ref x] ∧ Txt x t V cd n f s
def E (n : Nat) (r : Option Value) (s u : State) : Prop := XT.PureE (some (.int (if n = 0 then 1 else 0))) r s u
/-- isEmpty() of a String of n chars -/
theorem law (l : Launch) (x t : Addr) (V : Cell) (cd : Int32) (n : Nat) (f : Nat → Int32) : Law l yN 1 0 0 0 yB 1 (some .boolean) site (P x t V cd n f) (E n) [] 0 0 := by
  refine Law.of_walk (plainFor_of_name (by decide +kernel)) (by decide +kernel) (by decide +kernel) (by decide) (fun _ _ h => by rw [h.1]; rfl) (fun _ U U' hal hh h => ⟨h.1, h.2.mv hal hh⟩) (fun r U U' V V' h1 hal h2 h => XT.PureE.mv r U U' V V' h1 hal h2 h) ?_
  intro p e s m args below meth c s₁ X0 hexec hbytes hml hret hlk hnm hown hh0 W hP
  obtain ⟨rfl, hx⟩ := hP
  have v31 := hx.2.2.2.1.2.2.2
  have c1 : Steps p.tables e below (s₁.setTop (entryFrame m #[.ref x] 1)) (s₁.setTop (mkF m 1 #[.val (.ref x)] [.ref x])) := Steps.trans (entry rfl) (by
    show Steps p.tables e below (s₁.setTop (mkF m 0 #[.val (.ref x)] [])) _
    refine XS.aloadN X0.here hexec rfl (hb hbytes d0) rfl rfl ?_
    exact Steps.refl _)
  obtain ⟨T2, X2, q2, st2⟩ := X0.hget hexec hown (wk W (.fieldLink "java/lang/String" 9 "java/lang/String" "value" "[B")) (hx.mv X0.warmed.alike hh0).2.1 (g := (mkF m 1 #[.val (.ref x)] [.ref x])) rfl (rest := []) rfl (hb hbytes d1)
  have hh2 := q2.trans hh0
  have hx2 := hx.mv X2.warmed.alike hh2
  have c3 : Steps p.tables e below (s₁.setTop (entryFrame m #[.ref x] 1)) (T2.setTop (mkF m 5 #[.val (.ref x)] [.int (Int32.ofNat V.slots.size)])) := (c1.trans (st2 _ (Steps.refl _))).trans (by
    refine X2.alen hexec hx2.2.2.2.1 rfl rfl (hb hbytes d4) ?_
    exact Steps.refl _)
  have hz : V.slots.size = 0 ↔ n = 0 := by
    rcases hx.2.2.2.2.1 with ⟨-, q, -⟩ | ⟨-, q, -⟩ <;> omega
  by_cases h0 : n = 0
  · have c4 : Steps p.tables e below (s₁.setTop (entryFrame m #[.ref x] 1)) (T2.setTop (mkF m 13 #[.val (.ref x)] [.int 1])) := c3.trans (by
      refine XS.ifNo X2.here hexec rfl (hb hbytes d5) rfl (i0_ne_f (by rw [hz.mpr h0]; rfl)) ?_
      refine iconstV X2.here hexec rfl 1 (hb hbytes d8) (by decide) ?_
      refine XS.goto X2.here hexec rfl (pc0 := 9) rfl (hb hbytes d9) (by decide) rfl ?_
      exact Steps.refl _)
    exact ⟨T2, some (.int 1), _, _, _, X2, rfl, rfl, rfl, (fun h => by cases h), ⟨by rw [if_pos h0], hh2⟩, fun fs hl => c4.trans (X2.ireturnOut hexec hret rfl (Or.inr (Or.inl rfl)) (hb hbytes d13) hl)⟩
  · have c4 : Steps p.tables e below (s₁.setTop (entryFrame m #[.ref x] 1)) (T2.setTop (mkF m 13 #[.val (.ref x)] [.int 0])) := c3.trans (by
      refine XS.ifYes X2.here hexec rfl (pc0 := 5) rfl (hb hbytes d5) rfl (i0_ne_t (nz32 v31 (by omega))) (by decide) rfl ?_
      refine iconstV X2.here hexec rfl 0 (hb hbytes d12) (by decide) ?_
      exact Steps.refl _)
    exact ⟨T2, some (.int 0), _, _, _, X2, rfl, rfl, rfl, (fun h => by cases h), ⟨by rw [if_neg h0], hh2⟩, fun fs hl => c4.trans (X2.ireturnOut hexec hret rfl (Or.inr (Or.inl rfl)) (hb hbytes d13) hl)⟩
theorem pays {l : Launch} {R : Room} {p : Program} {e : Env} {below : List Frame} {s : State} {sargs : Array Value} {len W : Nat} (x t : Addr) (V : Cell) (cd : Int32) (n : Nat) (f : Nat → Int32) (htab : tab.before sargs s = true) (hfr : 1 ≤ R.frames) (hlo : W + 12 ≤ R.locals) :
    Back l R p e below s sargs yN len W (fun A₁ a₁ => A₁.cells + 0 ≤ R.cells ∧ A₁.slots + 0 ≤ R.slots ∧ P x t V cd n f a₁ A₁.U) (fun A₁ _ v₁ B₁ => E n v₁ A₁.U B₁.U ∧ B₁.locs = A₁.locs ++ [] ∧ B₁.cells = A₁.cells + 0 ∧ B₁.slots = A₁.slots + 0) :=
  (law l x t V cd n f).pays htab hfr (by omega)
end Emp
end StrChars
namespace StrChars.Road
open Jvm Sem ClassFile Op Lib Jvm.Stand Jvm.Free Jvm.Free.XT
open Jvm.Lib.Cold (StaticIs)
/-- the words of String.isEmpty() -/
abbrev wordsEmp : List Jvm.Cond := [.code Emp.yN Emp.yB 1 (some .boolean), .initialized ST, .fieldLink ST 9 ST "value" "[B"]
theorem tabEmp_of {a : Array Value} {s : State} (h : ∀ w ∈ wordsEmp, w.before a s = true) : Emp.tab.before a s = true := unparts (wk h (.code Emp.yN Emp.yB 1 (some .boolean))) (wks h (.initialized Emp.yN.cls :: Emp.site))
theorem movedEmp {Z s : State} {a0 args : Array Value} (hZ : Z.Warmed39 s.vm) (hw : ∀ d ∈ wordsEmp, d.before a0 Z = true) : ∀ d ∈ wordsEmp, d.before args s = true := fun d hd => by
  have t : ∀ d ∈ wordsEmp, (d.onTables && d.keepsFace) = true := by decide +kernel
  exact RoadKit.mv hZ (hw d hd) (t d hd)
/-- the road's facts of a String, as the laws ask it -/
theorem txt_of {Z U : State} {a0 : Array Value} {kI : Nat} (wi : (Jvm.Cond.instantiable ST kI).before a0 Z = true) (al : Z.vm.Alike U.vm) {x t : Addr} {kb : ClassId} {cs : List Int32} {cd N2 : Int32} {vs : List Value} (E : RoadKit.Exa Z U.heap x ST) (V : RoadKit.Fld Z U.heap x ST "value" "[B" (.ref t)) (C : RoadKit.Fld Z U.heap x ST "coder" "B" (.int cd)) (K : RoadKit.Arv Z U.heap t kb .byte N2 vs (.int 0)) (hc : CodA cs cd N2 vs) (hb : ∀ c ∈ cs, ¬ c < 0 ∧ ¬ (65535 : Int32) < c) (l2 : cs.length ≤ 4000) :
    ∃ A, Txt x t A cd cs.length (fun j => cs.getD j 0) U := by
  obtain ⟨A, K1, K2, K3, K4, K5, K6⟩ := K
  have hcod := hc.cod (by omega) K3 K5
  obtain ⟨D, fV, fC, hB, F1, F2, g1, g2, -, -⟩ := strObj wi al E V C
  exact ⟨A, ⟨_, hB.2.2.1, D, hB.1, rfl, by cases q : D.vm <;> first | rfl | exact absurd q (hB.2.1.2 _)⟩, Has.of hB F1 g1, Has.of hB F2 g2, ⟨K1.1, State.isArrayOf_alike al K1.2.1, K1.2.2, by rcases hcod with ⟨-, q, -⟩ | ⟨-, q, -⟩ <;> omega⟩, hcod, fun j hj => by
    have e : cs.getD j 0 = cs[j] := by simp [List.getD_eq_getElem?_getD, hj]
    show ¬ cs.getD j 0 < 0 ∧ ¬ 65535 < cs.getD j 0
    rw [e]; exact hb _ (List.getElem_mem _)⟩
/-- **isEmpty() OF SUCH A STRING** -/
theorem empW {p : Program} {l : Launch} {e : Env} {R : Room} {s : State} {args : Array Value} {below : List Frame} {len W : Nat} {Z : State} {a0 : Array Value} {h : Heap} (hZ : Z.Warmed39 s.vm) (hw : ∀ d ∈ wordsEmp, d.before a0 Z = true) {kI : Nat} (wi : (Jvm.Cond.instantiable ST kI).before a0 Z = true)
    {x t : Addr} {kb : ClassId} {cs : List Int32} {cd N2 : Int32} {vs : List Value} (E : RoadKit.Exa Z h x ST) (V : RoadKit.Fld Z h x ST "value" "[B" (.ref t)) (C : RoadKit.Fld Z h x ST "coder" "B" (.int cd)) (K : RoadKit.Arv Z h t kb .byte N2 vs (.int 0)) (hc : CodA cs cd N2 vs) (hb : ∀ c ∈ cs, ¬ c < 0 ∧ ¬ (65535 : Int32) < c) (l2 : cs.length ≤ 4000) (hfr : 1 ≤ R.frames) (hlo : W + 12 ≤ R.locals) :
    Back l R p e below s args (⟨"java/lang/String", "isEmpty", "()Z"⟩ : MethodName) len W (fun P a => a = #[.ref x] ∧ P.U.heap = h ∧ P.cells + 0 ≤ R.cells ∧ P.slots + 0 ≤ R.slots)
      (fun P _ v B => ∃ L, (v = some (.int (if cs.length = 0 then 1 else 0)) ∧ L = [] ∧ B.U.heap = h) ∧ B.locs = P.locs ++ L ∧ B.cells = P.cells + 0 ∧ B.slots = P.slots + 0) := by
  intro m meth c P g ig mk a X hg hsize hdg hW hn hp'
  obtain ⟨rfl, rfl, r1, r2⟩ := hp'
  have al : Z.vm.Alike P.U.vm := hZ.alike.trans X.warmed.alike
  obtain ⟨A, hx⟩ := txt_of wi al E V C K hc hb l2
  obtain ⟨v, B, X', ⟨⟨hv, hh⟩, hl, hk, hs⟩, st⟩ := Emp.pays x t A cd cs.length (fun j => cs.getD j 0) (tabEmp_of (movedEmp hZ hw)) hfr hlo m meth c P g ig mk _ X hg hsize hdg hW hn ⟨r1, r2, rfl, hx⟩
  exact ⟨v, B, X', ⟨[], ⟨hv, rfl, hh⟩, hl, hk, hs⟩, st⟩
end StrChars.Road
namespace StrChars
open Jvm Sem ClassFile Op Lib Jvm.Stand Jvm.Free.XT Jvm.Free.ALB Jvm.Free.JM Jvm.Free
open Jvm.Lib.Cold (StaticIs)
namespace ChN
def yN : MethodName := ⟨"java/lang/String", "charAt", "(I)C"⟩
abbrev yB : ByteArray := jdk_42_method_56_code
theorem d0 : decode yB 0 = .ok (.aload_n 0, 1) := by decide +kernel
theorem d1 : decode yB 1 = .ok (.invokevirtual 492, 3) := by decide +kernel
theorem d4 : decode yB 4 = .ok (.ifCond (.eq) 12, 3) := by decide +kernel
theorem d7 : decode yB 7 = .ok (.aload_n 0, 1) := by decide +kernel
theorem d8 : decode yB 8 = .ok (.getfield 9, 3) := by decide +kernel
theorem d11 : decode yB 11 = .ok (.iload_n 1, 1) := by decide +kernel
theorem d12 : decode yB 12 = .ok (.invokestatic 495, 3) := by decide +kernel
theorem d15 : decode yB 15 = .ok (.ireturn, 1) := by decide +kernel
def site : List Cond := [.fieldLink "java/lang/String" 9 "java/lang/String" "value" "[B", IsL.tab, LChA.tab] ++ virtW "java/lang/String" 492 "java/lang/String" IsL.yN IsL.yN ++ staticW "java/lang/String" 495 LChA.yN
def tab : Cond := tabOf yN yB 2 (some .char) site
def P (x t : Addr) (V : Cell) (n : Nat) (f : Nat → Int32) (z : Int32) (fm : Value) (i : Nat) (args : Array Value) (s : State) : Prop := args = #[.ref x, .int (Int32.ofNat i)] ∧ Txt x t V 0 n f s ∧ i < n ∧ StaticIs s "java/lang/String" "COMPACT_STRINGS" "Z" (.int z) ∧ ¬ z = 0 ∧ StaticIs s "jdk/internal/util/Preconditions" "SIOOBE_FORMATTER" "Ljava/util/function/BiFunction;" fm ∧ fm.isRef = true
def E (f : Nat → Int32) (i : Nat) (r : Option Value) (s u : State) : Prop := XT.PureE (some (.int (f i))) r s u
/-- charAt(i) of a Latin-1 String of n chars, i < n: f i -/
theorem law (l : Launch) (x t : Addr) (V : Cell) (n : Nat) (f : Nat → Int32) (z : Int32) (fm : Value) (i : Nat) : Law l yN 2 1 3 40 yB 2 (some .char) site (P x t V n f z fm i) (E f i) [] 0 0 := by
  refine Law.of_walk (plainFor_of_name (by decide +kernel)) (by decide +kernel) (by decide +kernel) (by decide) (fun _ _ h => by rw [h.1]; rfl) (fun _ U U' hal hh h => ⟨h.1, h.2.1.mv hal hh, h.2.2.1, h.2.2.2.1.there hal hh, h.2.2.2.2.1, h.2.2.2.2.2.1.there hal hh, h.2.2.2.2.2.2⟩) (fun r U U' V V' h1 hal h2 h => XT.PureE.mv r U U' V V' h1 hal h2 h) ?_
  intro p e s m args below meth c s₁ X0 hexec hbytes hml hret hlk hnm hown hh0 W hP
  obtain ⟨rfl, hx, hi, s1, hz, s3, rf⟩ := hP
  have v31 := hx.2.2.2.1.2.2.2
  have hr := hx.2.2.2.2.2 i hi
  have hx0 := hx.mv X0.warmed.alike hh0
  have c1 : Steps p.tables e below (s₁.setTop (entryFrame m #[.ref x, .int (Int32.ofNat i)] 2)) (s₁.setTop (mkF m 1 #[.val (.ref x), .val (.int (Int32.ofNat i))] [.ref x])) := Steps.trans (entry rfl) (by
    show Steps p.tables e below (s₁.setTop (mkF m 0 #[.val (.ref x), .val (.int (Int32.ofNat i))] [])) _
    refine XS.aloadN X0.here hexec rfl (hb hbytes d0) rfl rfl ?_
    exact Steps.refl _)
  obtain ⟨v2, T2, X2, E2, g2⟩ := X0.callV hexec (IsL.law l x 0 z) hown (wks W (virtW "java/lang/String" 492 "java/lang/String" IsL.yN IsL.yN)) rfl (by decide) (wk W IsL.tab) (W := 0) (Nat.le_of_ble_eq_true rfl) (Nat.le_of_ble_eq_true rfl) (Nat.le_refl _) (Nat.le_refl _) (hx0.1.fc X0.warmed.alike) hx0.1.is (g := (mkF m 1 #[.val (.ref x), .val (.int (Int32.ofNat i))] [.ref x])) rfl (by rw [hml]; rfl) c1 (argsL := []) (rest := []) rfl rfl (by show 2 * 0 + 0 ≤ _; decide) (hb hbytes d1) (⟨rfl, hx0.2.2.1, hx.2.2.2.2.1.cd, s1.there X0.warmed.alike hh0, hz⟩)
  obtain ⟨rfl, q2⟩ := E2
  have hh2 := q2.trans hh0
  have hx2 := hx.mv X2.warmed.alike hh2
  obtain ⟨-, k1, k2⟩ | ⟨k0, -⟩ := hx.2.2.2.2.1
  · have c3 : Steps p.tables e below (s₁.setTop (entryFrame m #[.ref x, .int (Int32.ofNat i)] 2)) (T2.setTop (mkF m 8 #[.val (.ref x), .val (.int (Int32.ofNat i))] [.ref x])) := Steps.trans g2 (by
      refine XS.ifNo X2.here hexec rfl (hb hbytes d4) rfl (i0_eq_f (by decide)) ?_
      refine XS.aloadN X2.here hexec rfl (hb hbytes d7) rfl rfl ?_
      exact Steps.refl _)
    obtain ⟨T4, X4, q4, st4⟩ := X2.hget hexec hown (wk W (.fieldLink "java/lang/String" 9 "java/lang/String" "value" "[B")) hx2.2.1 (g := (mkF m 8 #[.val (.ref x), .val (.int (Int32.ofNat i))] [.ref x])) rfl (rest := []) rfl (hb hbytes d8)
    have hh4 := q4.trans hh2
    have c5 : Steps p.tables e below (s₁.setTop (entryFrame m #[.ref x, .int (Int32.ofNat i)] 2)) (T4.setTop (mkF m 12 #[.val (.ref x), .val (.int (Int32.ofNat i))] [.int (Int32.ofNat i), .ref t])) := (c3.trans (st4 _ (Steps.refl _))).trans (by
      refine XS.iloadN X4.here hexec rfl (hb hbytes d11) rfl ?_
      exact Steps.refl _)
    obtain ⟨v6, T6, X6, E6, g6⟩ := X4.callS hexec (LChA.law l t V i (lo8 (f i)) fm) hown (wks W (staticW "java/lang/String" 495 LChA.yN)) (wk W LChA.tab) (W := 0) (Nat.le_of_ble_eq_true rfl) (Nat.le_of_ble_eq_true rfl) (Nat.le_refl _) (Nat.le_refl _) (g := (mkF m 12 #[.val (.ref x), .val (.int (Int32.ofNat i))] [.int (Int32.ofNat i), .ref t])) rfl (by rw [hml]; rfl) c5 (argsL := [.ref t, .int (Int32.ofNat i)]) (rest := []) rfl rfl (by show 2 * 0 + 0 ≤ _; decide) (hb hbytes d12) (⟨rfl, hx.2.2.2.1.mv X4.warmed.alike hh4, (k2 i hi).1, s3.there X4.warmed.alike hh4, rf⟩)
    obtain ⟨rfl, q6⟩ := E6
    rw [chr8_lo8 hr.1 (k2 i hi).2] at g6
    exact ⟨T6, some (.int (f i)), _, _, _, X6, rfl, rfl, rfl, (fun h => by cases h), ⟨rfl, q6.trans hh4⟩, fun fs hl => Steps.trans g6 (X6.ireturnOut hexec hret (narrow_ch hr.1 hr.2) (Or.inr (Or.inr (Or.inr (Or.inl rfl)))) (hb hbytes d15) hl)⟩
  · exact absurd k0 (by decide)
theorem pays {l : Launch} {R : Room} {p : Program} {e : Env} {below : List Frame} {s : State} {sargs : Array Value} {len W : Nat} (x t : Addr) (V : Cell) (n : Nat) (f : Nat → Int32) (z : Int32) (fm : Value) (i : Nat) (htab : tab.before sargs s = true) (hfr : 4 ≤ R.frames) (hlo : W + 53 ≤ R.locals) :
    Back l R p e below s sargs yN len W (fun A₁ a₁ => A₁.cells + 0 ≤ R.cells ∧ A₁.slots + 0 ≤ R.slots ∧ P x t V n f z fm i a₁ A₁.U) (fun A₁ _ v₁ B₁ => E f i v₁ A₁.U B₁.U ∧ B₁.locs = A₁.locs ++ [] ∧ B₁.cells = A₁.cells + 0 ∧ B₁.slots = A₁.slots + 0) :=
  (law l x t V n f z fm i).pays htab hfr (by omega)
end ChN
end StrChars
namespace StrChars.Road
open Jvm Sem ClassFile Op Lib Jvm.Stand Jvm.Free Jvm.Free.XT
open Jvm.Lib.Cold (StaticIs)
/-- the words of String.charAt(int), the Latin-1 road alone -/
abbrev wordsChN : List Jvm.Cond := [.code ChN.yN ChN.yB 2 (some .char), .initialized ST, .fieldLink ST 9 ST "value" "[B", .fieldLink ST 38 ST "COMPACT_STRINGS" "Z", .fieldLink ST 15 ST "coder" "B", .code IsL.yN IsL.yB 1 (some .boolean), .methodLink ST 492 IsL.yN, .declares IsL.yN, .selects ST IsL.yN IsL.yN, .instanceMethod IsL.yN,
  .methodLink ST 495 LChA.yN, .static LChA.yN, .code LChA.yN LChA.yB 2 (some .char), .initialized "java/lang/StringLatin1", .methodLink "java/lang/StringLatin1" 9 JO.Str_checkIndex.yN, .static JO.Str_checkIndex.yN, .code JO.Str_checkIndex.yN JO.Str_checkIndex.yB 2 none,
  .fieldLink ST 1053 "jdk/internal/util/Preconditions" "SIOOBE_FORMATTER" "Ljava/util/function/BiFunction;", .methodLink ST 1059 JC.PreCheck.yN, .static JC.PreCheck.yN, .code JC.PreCheck.yN JC.PreCheck.yB 3 (some .int), .initialized "jdk/internal/util/Preconditions"]
theorem tabChN_of {a : Array Value} {s : State} (h : ∀ w ∈ wordsChN, w.before a s = true) : ChN.tab.before a s = true := by
  have hp : JC.PreCheck.tab.before a s = true := unparts (wk h (.code JC.PreCheck.yN JC.PreCheck.yB 3 (some .int))) (wks h (.initialized JC.PreCheck.yN.cls :: JC.PreCheck.site))
  have qk := consq hp h
  have hk : JO.Str_checkIndex.tab.before a s = true := unparts (wk qk (.code JO.Str_checkIndex.yN JO.Str_checkIndex.yB 2 none)) (wks qk (.initialized JO.Str_checkIndex.yN.cls :: JO.Str_checkIndex.site))
  have ql := consq hk h
  have hl : LChA.tab.before a s = true := unparts (wk ql (.code LChA.yN LChA.yB 2 (some .char))) (wks ql (.initialized LChA.yN.cls :: LChA.site))
  have hi : IsL.tab.before a s = true := unparts (wk h (.code IsL.yN IsL.yB 1 (some .boolean))) (wks h (.initialized IsL.yN.cls :: IsL.site))
  have q := consq hi (consq hl h)
  exact unparts (wk q (.code ChN.yN ChN.yB 2 (some .char))) (wks q (.initialized ChN.yN.cls :: ChN.site))
theorem movedChN {Z s : State} {a0 args : Array Value} (hZ : Z.Warmed39 s.vm) (hw : ∀ d ∈ wordsChN, d.before a0 Z = true) : ∀ d ∈ wordsChN, d.before args s = true := fun d hd => by
  have t : ∀ d ∈ wordsChN, (d.onTables && d.keepsFace) = true := by decide +kernel
  exact RoadKit.mv hZ (hw d hd) (t d hd)
/-- **charAt(i) OF A LATIN-1 STRING**, i < n: the char -/
theorem chN {p : Program} {l : Launch} {e : Env} {R : Room} {s : State} {args : Array Value} {below : List Frame} {len W : Nat} {Z : State} {a0 : Array Value} {h : Heap} (hZ : Z.Warmed39 s.vm) (hw : ∀ d ∈ wordsChN, d.before a0 Z = true) {kI : Nat} (wi : (Jvm.Cond.instantiable ST kI).before a0 Z = true)
    {x t : Addr} {kb : ClassId} {cs : List Int32} {N2 z : Int32} {vs : List Value} {fm : Value} {i : Nat} {j : Int32} (E : RoadKit.Exa Z h x ST) (V : RoadKit.Fld Z h x ST "value" "[B" (.ref t)) (C : RoadKit.Fld Z h x ST "coder" "B" (.int 0)) (K : RoadKit.Arv Z h t kb .byte N2 vs (.int 0)) (hc : CodA cs 0 N2 vs) (hb : ∀ c ∈ cs, ¬ c < 0 ∧ ¬ (65535 : Int32) < c)
    (S : RoadKit.Sta Z h ST "COMPACT_STRINGS" "Z" (.int z)) (hz : ¬ z = 0) (F : RoadKit.Sta Z h "jdk/internal/util/Preconditions" "SIOOBE_FORMATTER" "Ljava/util/function/BiFunction;" fm) (rf : fm.isRef = true) (l2 : cs.length ≤ 4000) (hi : i < cs.length) (hj : j = Int32.ofNat i) (hfr : 4 ≤ R.frames) (hlo : W + 53 ≤ R.locals) :
    Back l R p e below s args (⟨"java/lang/String", "charAt", "(I)C"⟩ : MethodName) len W (fun P a => a = #[.ref x, .int j] ∧ P.U.heap = h ∧ P.cells + 0 ≤ R.cells ∧ P.slots + 0 ≤ R.slots)
      (fun P _ v B => ∃ L, (v = some (.int (cs.getD i 0)) ∧ L = [] ∧ B.U.heap = h) ∧ B.locs = P.locs ++ L ∧ B.cells = P.cells + 0 ∧ B.slots = P.slots + 0) := by
  subst hj
  intro m meth c P g ig mk a X hg hsize hdg hW hn hp'
  obtain ⟨rfl, rfl, r1, r2⟩ := hp'
  have al : Z.vm.Alike P.U.vm := hZ.alike.trans X.warmed.alike
  obtain ⟨A, hx⟩ := txt_of wi al E V C K hc hb l2
  obtain ⟨v, B, X', ⟨⟨hv, hh⟩, hl, hk, hs⟩, st⟩ := ChN.pays x t A cs.length (fun j => cs.getD j 0) z fm i (tabChN_of (movedChN hZ hw)) hfr hlo m meth c P g ig mk _ X hg hsize hdg hW hn ⟨r1, r2, rfl, hx, hi, sta_is al S, hz, sta_is al F, rf⟩
  exact ⟨v, B, X', ⟨[], ⟨hv, rfl, hh⟩, hl, hk, hs⟩, st⟩
/-- what backV says of its String, as the contracts of this text ask it: cs's low bytes, coder 0 -/
theorem codOf {cs : List Int32} {n : Nat} (hn : cs.length = n) (hb : ∀ c ∈ cs, ¬ 255 < c) : CodA cs 0 (Int32.ofNat n) ((cs.map lo8).map Value.int) := Or.inl ⟨rfl, by rw [hn], by simp [List.map_map, Function.comp_def], hb⟩
end StrChars.Road
end Jvm.Pilot.@@N@@

namespace Jvm.Pilot.@@N@@.Own
open Jvm Jvm.ClassFile Sem Op Lib Jvm.Free Jvm.Stand Jvm.LawKit Jvm.RoadKit
abbrev ST : String := "java/lang/String"
abbrev Nar (s : State) (vm : Vm) : Prop := vm = s.vm
/-- where a walk stands -/
def Sit (p : Program) (l : Launch) (e : Env) (R : Room) (s : State) (m : MethodId) (args : Array Value) (below : List Frame) (meth : Method) (c : Code) (Z : State) (EL : List (String × Nat)) (own : String) (vm : Vm) (T : State) (h : Heap) (k n : Nat) : Prop :=
  ∃ locs : List Loc, Stand p l e R (s.setVm vm) m args below meth c T locs k n ∧ T.heap = h ∧ Z.Warmed39 vm ∧ vm.findClass own = some m.cls ∧ (∃ j, s.Since vm j ∧ j ≤ h.size) ∧ CHr Z EL s.vm s.heap vm h ∧ Fr Z.heap.size locs ∧ Ext Z.heap s.heap ∧ Nar s vm
/-- one step of the heap and the tables: what was kept, what may be booked -/
def Stp (Z : State) (EL : List (String × Nat)) (vm : Vm) (h : Heap) (vm' : Vm) (h' : Heap) (ws : List Addr) : Prop := Keep h h' ws ∧ CHr Z EL vm h vm' h'
def Cl (p : Program) (e : Env) (below : List Frame) (G : State → JFrame → Prop) : Prop := ∀ (T T' : State) (g g' : JFrame), (∀ t, Steps p.tables e below (T'.setTop g') t → Steps p.tables e below (T.setTop g) t) → G T' g' → G T g
def Rt (p : Program) (l : Launch) (e : Env) (R : Room) (s : State) (m : MethodId) (args : Array Value) (below : List Frame) (meth : Method) (c : Code) (Z : State) (EL : List (String × Nat)) (own : String) (Q : Option Value → Heap → Prop) (G : State → JFrame → Prop) : Prop :=
  ∀ (vm : Vm) (T : State) (h : Heap) (k n : Nat) (v : Option Value) (g : JFrame), Sit p l e R s m args below meth c Z EL own vm T h k n → k ≤ R.cells → n ≤ R.slots → (meth.sig.returnType = none → v = none) → Q v h →
    (∀ fs, (∀ (f : JFrame) (acts : List Action), f.method = m → f.locked = none → f.entered = [] → (doReturn e (T.setTop f) acts v).1 = T.setFrames fs) → Steps p.tables e below (T.setTop g) (T.setFrames fs)) → G T g
def Con (l : Launch) (Z : State) (EL : List (String × Nat)) (y : MethodName) (bytes : ByteArray) (maxL : Nat) (ret : Option FieldType) (ws : List Jvm.Cond) (rm : Room) (as : Array Value) (h : Heap) (Q : Option Value → Heap → Prop) : Prop :=
  MetFree l y (head1 (Jvm.Cond.code y bytes maxL ret :: ws) rm) (fun a U => a = as ∧ Z.Warmed39 U.vm ∧ U.heap = h) (fun _ _ _ _ _ => True) (fun _ U o U' => ∃ v L, o = .returned v ∧ (Q v U'.heap ∧ Fr Z.heap.size L) ∧ FrameEnd U o U' L rm.cells rm.slots)
section L
variable {p : Program} {l : Launch} {e : Env} {R : Room} {s : State} {m : MethodId} {args : Array Value} {below : List Frame} {meth : Method} {c : Code} {Z : State} {EL : List (String × Nat)} {own : String} {a0 : Array Value} {vm vm' vm'' : Vm} {T T' : State} {h h' h'' : Heap} {k n : Nat} {G : State → JFrame → Prop} {ws ws' us : List Addr} {x a b t : Addr}
theorem irem {tb : Tables} [Ours tb] {target : State} {g : JFrame} (h : At T m c below) (hx : tb.exec = Jvm.exec) (hg : g.method = m) {x y : Int32} {rest : List Value} (hd : decode c.code g.pc = .ok (.irem, 1)) (hs : g.stack = .int y :: .int x :: rest) (hy : y ≠ 0) (hr : Steps tb e below (T.setTop { g with pc := g.pc + 1, stack := .int (x % y) :: rest }) target) : Steps tb e below (T.setTop g) target := by
  have q : x - x / y * y = x % y := irem_eq_mod x y
  exact XS.irem h hx hg hd hs hy (by rw [q]; exact hr)
theorem Cl.st (hG : Cl p e below G) {T T' : State} {g g' : JFrame} (f : ∀ t, Steps p.tables e below (T'.setTop g') t → Steps p.tables e below (T.setTop g) t) (q : G T' g') : G T g := hG T T' g g' f q
theorem old_ext {locs : List Loc} (X : Stand p l e R (s.setVm vm) m args below meth c T locs k n) (N : Fr Z.heap.size locs) (O : Ext Z.heap s.heap) : Ext Z.heap T.heap := by
  have hs := X.same
  refine ⟨Nat.le_trans O.1 hs.2.1, fun b cl hcl => ?_⟩
  obtain ⟨c', h1, h2, -, h4⟩ := hs.2.2.2.2.2 b cl (O.2 b cl hcl)
  have hb := (Array.getElem?_eq_some_iff.mp hcl).1
  have hsl : c'.slots = cl.slots := Array.ext_getElem? fun i => h4 i fun hm => absurd (N _ hm) (Nat.not_le.mpr hb)
  have hcc : c' = cl := by rw [h2, hsl]
  rw [← hcc]; exact h1
theorem Sit.here (S : Sit p l e R s m args below meth c Z EL own vm T h k n) : At T m c below := by
  obtain ⟨_, X, -⟩ := S; exact X.here
theorem Sit.warm (S : Sit p l e R s m args below meth c Z EL own vm T h k n) : Z.Warmed39 vm := by
  obtain ⟨_, -, -, q, -⟩ := S; exact q
theorem Sit.ch (S : Sit p l e R s m args below meth c Z EL own vm T h k n) : CHv Z EL vm h := by
  obtain ⟨_, -, -, -, -, -, q, -⟩ := S; exact q.1
theorem Sit.old (S : Sit p l e R s m args below meth c Z EL own vm T h k n) : Ext Z.heap h := by
  obtain ⟨_, X, rfl, -, -, -, -, N, O, -⟩ := S; exact old_ext X N O
theorem Sit.le (S : Sit p l e R s m args below meth c Z EL own vm T h k n) : Z.heap.size ≤ h.size := S.old.1
theorem Sit.mono (S : Sit p l e R s m args below meth c Z EL own vm T h k n) {k' n' : Nat} (hk : k ≤ k') (hn : n ≤ n') : Sit p l e R s m args below meth c Z EL own vm T h k' n' := by
  obtain ⟨locs, X, r⟩ := S
  exact ⟨locs, { X with same := X.same.mono hk hn }, r⟩
theorem Stp.refl (H : CHv Z EL vm h) : Stp Z EL vm h vm h [] := ⟨Keep.refl _ _, CHr.refl H⟩
theorem Stp.trans (A : Stp Z EL vm h vm' h' ws) (B : Stp Z EL vm' h' vm'' h'' ws') (q : ∀ x ∈ ws, x ∈ us) (q' : ∀ x ∈ ws', x ∈ us ∨ h.size ≤ x) : Stp Z EL vm h vm'' h'' us :=
  ⟨Keep.trans ⟨A.1.1, fun x c r z => A.1.2.1 x c r fun y => z (q x y), A.1.2.2⟩ B.1 q', A.2.trans B.2⟩
theorem Stp.mono (A : Stp Z EL vm h vm' h' ws) (q : ∀ x ∈ ws, x ∈ us) : Stp Z EL vm h vm' h' us := ⟨⟨A.1.1, fun x c r z => A.1.2.1 x c r fun y => z (q x y), A.1.2.2⟩, A.2⟩
theorem Stp.of_ext (E : Ext h h') (H : CHv Z EL vm h) : Stp Z EL vm h vm h' [] := ⟨(Keep.refl _ _).ext E, CHr.ext E H⟩
theorem Stp.of_wr {sl : Nat} {v : Value} (W : Wr h h' a sl v) (S : Safe Z EL vm h a) (H : CHv Z EL vm h) : Stp Z EL vm h vm h' [a] := ⟨Keep.of_wr W, CHr.wr W S H⟩
theorem Stp.of_keep (K : Keep h h' ws) (S : ∀ x ∈ ws, Safe Z EL vm h x) (H : CHv Z EL vm h) : Stp Z EL vm h vm h' ws := ⟨K, CHr.keep K S H⟩
theorem Stp.safe (A : Stp Z EL vm h vm' h' ws) (hx : x < h.size) (S : Safe Z EL vm h x) : Safe Z EL vm' h' x := A.2.safe hx S
theorem Stp.fld (A : Stp Z EL vm h vm' h' ws) {C f d : String} {v : Value} (F : Fld Z h a C f d v) (q : a ∉ ws) : Fld Z h' a C f d v := F.keep A.1 q
theorem Stp.exa (A : Stp Z EL vm h vm' h' ws) {C : String} (F : Exa Z h a C) : Exa Z h' a C := F.keep A.1
theorem Stp.arv (A : Stp Z EL vm h vm' h' ws) {kc : ClassId} {ty : FieldType} {z : Int32} {vs : List Value} {d : Value} (F : Arv Z h a kc ty z vs d) (q : a ∉ ws) : Arv Z h' a kc ty z vs d := F.keep A.1 q
theorem keep_mono (K : Keep h h' ws) (q : ∀ x ∈ ws, x ∈ us) : Keep h h' us := ⟨K.1, fun x c r z => K.2.1 x c r fun y => z (q x y), K.2.2⟩
theorem and255 (x : Int32) : ¬ nar .char ((x &&& (255 : Int32)).toUInt32.toUInt16.toUInt32.toInt32) < 0 ∧ ¬ (255 : Int32) < nar .char ((x &&& (255 : Int32)).toUInt32.toUInt16.toUInt32.toInt32) := by
  have e : nar .char ((x &&& (255 : Int32)).toUInt32.toUInt16.toUInt32.toInt32) = x &&& 255 := by
    rw [i2c_mask]; exact i2c_mask x
  rw [e]
  have h := c_and x 255 (by decide)
  have e1 : (255 : Int32).toInt = 255 := rfl
  have e0 : (0 : Int32).toInt = 0 := rfl
  exact ⟨fun q => by rw [Int32.lt_iff_toInt_lt, e0] at q; omega, fun q => by rw [Int32.lt_iff_toInt_lt, e1] at q; omega⟩
theorem safe0 : Safe Z [] vm h x := fun B => by obtain ⟨_, hp, -⟩ := B; exact nomatch hp
def Str (Z : State) (h : Heap) (x t : Addr) (cs : List Int32) : Prop := ∃ kb : ClassId, Exa Z h x ST ∧ Fld Z h x ST "value" "[B" (.ref t) ∧ Fld Z h x ST "coder" "B" (.int 0) ∧ Arv Z h t kb .byte (Int32.ofNat cs.length) ((cs.map fun c => c.toInt8.toInt32).map Value.int) (.int 0) ∧ (∀ c ∈ cs, ¬ c < 0 ∧ ¬ (255 : Int32) < c) ∧ cs.length ≤ 4000
theorem Str.exa {cs : List Int32} (F : Str Z h x t cs) : Exa Z h x ST := by obtain ⟨_, q, -⟩ := F; exact q
theorem Str.lt {cs : List Int32} (F : Str Z h x t cs) : x < h.size := F.exa.lt
theorem Str.ltB {cs : List Int32} (F : Str Z h x t cs) : t < h.size := by obtain ⟨_, -, -, -, q, -⟩ := F; exact q.lt
theorem Str.ext {cs : List Int32} (F : Str Z h x t cs) (E : Ext h h') : Str Z h' x t cs := by
  obtain ⟨kb, q1, q2, q3, q4, q5⟩ := F; exact ⟨kb, q1.ext E, q2.ext E, q3.ext E, q4.ext E, q5⟩
theorem Stp.str (A : Stp Z EL vm h vm' h' ws) {cs : List Int32} (F : Str Z h x t cs) (q : x ∉ ws) (r : t ∉ ws) : Str Z h' x t cs := by
  obtain ⟨kb, q1, q2, q3, q4, q5⟩ := F; exact ⟨kb, A.exa q1, A.fld q2 q, A.fld q3 q, A.arv q4 r, q5⟩
theorem Str.neB {cs : List Int32} {C : String} {n : Nat} (F : Str Z h x t cs) (E : Exa Z h a C) (w : (Jvm.Cond.instantiable C n).before a0 Z = true) : t ≠ a := by
  obtain ⟨_, -, -, -, q, -⟩ := F; exact (E.neArv q w).symm
theorem Str.ne {cs : List Int32} {C : String} (F : Str Z h x t cs) (E : Exa Z h a C) (q : C ≠ ST) : x ≠ a := (E.ne F.exa q).symm
theorem arr_neK {k1 k2 : ClassId} {t1 t2 : FieldType} {z1 z2 : Int32} {v1 v2 : List Value} {d1 d2 : Value} (A : Arv Z h a k1 t1 z1 v1 d1) (B : Arv Z h b k2 t2 z2 v2 d2) (q : t1 ≠ t2) : a ≠ b := fun e => by
  subst e
  obtain ⟨c1, ⟨p1, ⟨-, kA, r1, m1, s1⟩, -⟩, -⟩ := A
  obtain ⟨c2, ⟨p2, ⟨-, kB, r2, m2, s2⟩, -⟩, -⟩ := B
  cases p1.symm.trans p2
  cases r1.symm.trans r2
  exact q (by have := s1.symm.trans s2; injection this)
theorem Str.neV {cs : List Int32} {kc : ClassId} {ty : FieldType} {z : Int32} {vs : List Value} {d : Value} (F : Str Z h x t cs) (A : Arv Z h a kc ty z vs d) (q : ty ≠ .byte) : t ≠ a := by
  obtain ⟨_, -, -, -, r, -⟩ := F; exact arr_neK r A (Ne.symm q)
theorem Str.neX {cs : List Int32} {n : Nat} {kc : ClassId} {ty : FieldType} {z : Int32} {vs : List Value} {d : Value} (F : Str Z h x t cs) (A : Arv Z h a kc ty z vs d) (w : (Jvm.Cond.instantiable ST n).before a0 Z = true) : x ≠ a := F.exa.neArv A w
/-- Stepping laws. -/
theorem Sit.getF (hG : Cl p e below G) (S : Sit p l e R s m args below meth c Z EL own vm T h k n) (hx : p.tables.exec = Jvm.exec) {R0 O nm d host : String} {index : Nat} (w : (Jvm.Cond.fieldLink own index R0 nm d).before a0 Z = true ∨ (Jvm.Cond.fieldLinkNest own index R0 nm d host).before a0 Z = true) (via : Via Z R0 O nm d) {v : Value} (F : Fld Z h a O nm d v)
    {g : JFrame} (hg : g.method = m) {rest : List Value} (hs : g.stack = .ref a :: rest) (hd : decode c.code g.pc = .ok (.getfield index, 3)) (K : ∀ T', Sit p l e R s m args below meth c Z EL own vm T' h k n → G T' { g with pc := g.pc + 3, stack := v :: rest }) : G T g := by
  obtain ⟨locs, X, eT, hZ, hown, r⟩ := S
  obtain ⟨T', X', e', st⟩ := RoadKit.getF X hx hZ hown w via eT F hg hs hd
  exact hG.st st (K T' ⟨locs, X', e', hZ, hown, r⟩)
theorem Sit.getS (hG : Cl p e below G) (S : Sit p l e R s m args below meth c Z EL own vm T h k n) (hx : p.tables.exec = Jvm.exec) {R0 O nm d host : String} {index : Nat} (w : (Jvm.Cond.fieldLink own index R0 nm d).before a0 Z = true ∨ (Jvm.Cond.fieldLinkNest own index R0 nm d host).before a0 Z = true) (via : Via Z R0 O nm d) {v : Value} (F : Sta Z h O nm d v)
    {g : JFrame} (hg : g.method = m) (hd : decode c.code g.pc = .ok (.getstatic index, 3)) (K : ∀ T', Sit p l e R s m args below meth c Z EL own vm T' h k n → G T' { g with pc := g.pc + 3, stack := v :: g.stack }) : G T g := by
  obtain ⟨locs, X, eT, hZ, hown, r⟩ := S
  obtain ⟨T', X', e', st⟩ := RoadKit.getS2 X hx hZ hown w via eT F hg hd
  exact hG.st st (K T' ⟨locs, X', e', hZ, hown, r⟩)
theorem fr_one {locs : List Loc} {sl : Nat} (N : Fr Z.heap.size locs) (ga : Z.heap.size ≤ a) : Fr Z.heap.size (locs ++ [⟨a, sl⟩]) := N.app fun y hy => by cases List.mem_singleton.mp hy; exact ga
theorem Sit.putF (hG : Cl p e below G) (S : Sit p l e R s m args below meth c Z EL own vm T h k n) (hx : p.tables.exec = Jvm.exec) {R0 O nm d host C : String} {index kk : Nat} {ty : FieldType} (w : (Jvm.Cond.fieldLink own index R0 nm d).before a0 Z = true ∨ (Jvm.Cond.fieldLinkNest own index R0 nm d host).before a0 Z = true) (via : Via Z R0 O nm d) {v old : Value} (F : Fld Z h a O nm d old) (E : Exa Z h a C)
    (L : (Jvm.Cond.lays C O nm d).before a0 Z = true ∨ ((Jvm.Cond.laysFinal C O nm d).before a0 Z = true ∧ own = O ∧ meth.name = "<init>")) (wi : (Jvm.Cond.instantiable C kk).before a0 Z = true) (hty : parseFieldDescriptor d = some ty) (hn : narrow ty v = v) (hf : fits ty v = true) (ga : Z.heap.size ≤ a) (sf : Safe Z EL vm h a)
    {g : JFrame} (hg : g.method = m) {rest : List Value} (hs : g.stack = v :: .ref a :: rest) (hd : decode c.code g.pc = .ok (.putfield index, 3)) (K : ∀ T' h', Sit p l e R s m args below meth c Z EL own vm T' h' k n → Stp Z EL vm h vm h' [a] → Wr h h' a (RoadKit.slotOf Z O nm d) v → Fld Z h' a O nm d v → G T' { g with pc := g.pc + 3, stack := rest }) : G T g := by
  obtain ⟨locs, X, eT, hZ, hown, ⟨j, hS, hj⟩, C0, N, r⟩ := S
  obtain ⟨T', h', X', e', W, st⟩ := RoadKit.putF X hx hZ hown w via eT F E L wi hty hn hf hg hs hd
  have J := Stp.of_wr W sf C0.1
  exact hG.st st (K T' h' ⟨_, X', e', hZ, hown, ⟨j, hS, Nat.le_trans hj J.1.1⟩, C0.trans J.2, fr_one N ga, r⟩ J W (F.same W))
theorem Sit.newO (hG : Cl p e below G) (S : Sit p l e R s m args below meth c Z EL own vm T h k n) (hx : p.tables.exec = Jvm.exec) {C : String} {index nn : Nat} (w : (Jvm.Cond.classLink own index C).before a0 Z = true) (wi : (Jvm.Cond.instantiable C nn).before a0 Z = true) (wz : (Jvm.Cond.initialized C).before a0 Z = true)
    {g : JFrame} (hg : g.method = m) (hd : decode c.code g.pc = .ok (.new index, 3)) (hc : k + 1 ≤ R.cells) (hl : n + nn ≤ R.slots)
    (K : ∀ T' h' x, x = h.size → Sit p l e R s m args below meth c Z EL own vm T' h' (k + 1) (n + nn) → Stp Z EL vm h vm h' [] → Safe Z EL vm h' x → Exa Z h' x C → (∀ {O nm d : String} {ty : FieldType}, Laid Z a0 C O nm d → parseFieldDescriptor d = some ty → Fld Z h' x O nm d (defaultValue ty)) → G T' { g with pc := g.pc + 3, stack := .ref x :: g.stack }) : G T g := by
  obtain ⟨locs, X, eT, hZ, hown, ⟨j, hS, hj⟩, C0, r⟩ := S
  obtain ⟨T', h', X', e', E, A, D, -, st⟩ := RoadKit.newO X hx hZ hown w wi wz eT hg hd hc hl
  exact hG.st st (K T' h' _ rfl ⟨locs, X', e', hZ, hown, ⟨j, hS, Nat.le_trans hj E.1⟩, C0.trans (CHr.ext E C0.1), r⟩ (Stp.of_ext E C0.1) (Safe.ext E C0.1 (Safe.new (Nat.le_refl _))) A D)
theorem Sit.newP (hG : Cl p e below G) (S : Sit p l e R s m args below meth c Z EL own vm T h k n) (hx : p.tables.exec = Jvm.exec) {aty : ArrayType} (w : (Jvm.Cond.arrayClass (newarray.typeOf aty)).before a0 Z = true) {g : JFrame} (hg : g.method = m) (hd : decode c.code g.pc = .ok (.newarray aty, 2)) {z : Int32} {rest : List Value} (hs : g.stack = .int z :: rest)
    (hz : ¬ z < 0) {cap : Nat} (hcap : z.toNatClampNeg ≤ cap) (hb : cap * 8 ≤ 536870912) (hc : k + 1 ≤ R.cells) (hl : n + cap ≤ R.slots)
    (K : ∀ T' h' x cA, x = h.size → Sit p l e R s m args below meth c Z EL own vm T' h' (k + 1) (n + cap) → Stp Z EL vm h vm h' [] → Safe Z EL vm h' x → Arv Z h' x cA (newarray.typeOf aty) z (List.replicate z.toNatClampNeg (defaultValue (newarray.typeOf aty))) (defaultValue (newarray.typeOf aty)) → G T' { g with pc := g.pc + 2, stack := .ref x :: rest }) : G T g := by
  obtain ⟨locs, X, eT, hZ, hown, ⟨j, hS, hj⟩, C0, r⟩ := S
  obtain ⟨T', h', cA, X', e', E, A, st⟩ := RoadKit.newP X hx hZ w eT hg hd hs hz hcap hb hc hl
  exact hG.st st (K T' h' _ cA rfl ⟨locs, X', e', hZ, hown, ⟨j, hS, Nat.le_trans hj E.1⟩, C0.trans (CHr.ext E C0.1), r⟩ (Stp.of_ext E C0.1) (Safe.ext E C0.1 (Safe.new (Nat.le_refl _))) ((Arv.new A hz).pad (pad_rep [] _ _)))
theorem Sit.stC (hG : Cl p e below G) (S : Sit p l e R s m args below meth c Z EL own vm T h k n) (hx : p.tables.exec = Jvm.exec) {kc : ClassId} {z : Int32} {vs : List Value} {d : Value} (V : Arv Z h a kc .char z vs d) (ga : Z.heap.size ≤ a) {j y : Int32} (hj : ¬ j < 0 ∧ j < z) (i : Nat) (hi : j.toNatClampNeg = i) (hil : i < vs.length)
    {g : JFrame} (hg : g.method = m) {rest : List Value} (hs : g.stack = .int y :: .int j :: .ref a :: rest) (hd : decode c.code g.pc = .ok (.castore, 1)) (K : ∀ T' h', Sit p l e R s m args below meth c Z EL own vm T' h' k n → Stp Z EL vm h vm h' [a] → Arv Z h' a kc .char z (vs.set i (.int (nar .char y))) d → G T' { g with pc := g.pc + 1, stack := rest }) : G T g := by
  obtain ⟨locs, X, eT, hZ, hown, ⟨jj, hS, hjj⟩, C0, N, r⟩ := S
  obtain ⟨cl, A, q1, q2, q3, q4, q5⟩ := V
  obtain ⟨T', h', X', e', W, st⟩ := RoadKit.stC X hx hZ eT A (inb_of q2 hj) hg hs hd
  have J := Stp.of_wr W (Safe.arr hZ.alike A (by decide)) C0.1
  exact hG.st st (K T' h' ⟨_, X', e', hZ, hown, ⟨jj, hS, Nat.le_trans hjj J.1.1⟩, C0.trans J.2, fr_one N ga, r⟩ J (Arv.set A q1 q2 q3 q4 q5 (fits_nar_char _) W i hi hil))
theorem Sit.stB (hG : Cl p e below G) (S : Sit p l e R s m args below meth c Z EL own vm T h k n) (hx : p.tables.exec = Jvm.exec) {kc : ClassId} {z : Int32} {vs : List Value} {d : Value} (V : Arv Z h a kc .byte z vs d) (ga : Z.heap.size ≤ a) (sf : Safe Z EL vm h a) {j y : Int32} (hj : ¬ j < 0 ∧ j < z) (i : Nat) (hi : j.toNatClampNeg = i) (hil : i < vs.length)
    {g : JFrame} (hg : g.method = m) {rest : List Value} (hs : g.stack = .int y :: .int j :: .ref a :: rest) (hd : decode c.code g.pc = .ok (.bastore, 1)) (K : ∀ T' h', Sit p l e R s m args below meth c Z EL own vm T' h' k n → Stp Z EL vm h vm h' [a] → Arv Z h' a kc .byte z (vs.set i (.int (nar .byte y))) d → G T' { g with pc := g.pc + 1, stack := rest }) : G T g := by
  obtain ⟨locs, X, eT, hZ, hown, ⟨jj, hS, hjj⟩, C0, N, r⟩ := S
  obtain ⟨cl, A, q1, q2, q3, q4, q5⟩ := V
  obtain ⟨T', h', X', e', W, st⟩ := RoadKit.stB X hx hZ eT A (inb_of q2 hj) hg hs hd
  have J := Stp.of_wr W sf C0.1
  exact hG.st st (K T' h' ⟨_, X', e', hZ, hown, ⟨jj, hS, Nat.le_trans hjj J.1.1⟩, C0.trans J.2, fr_one N ga, r⟩ J (Arv.set A q1 q2 q3 q4 q5 (fits_nar_byte _) W i hi hil))
theorem Sit.caload (hG : Cl p e below G) (S : Sit p l e R s m args below meth c Z EL own vm T h k n) (hx : p.tables.exec = Jvm.exec) {kc : ClassId} {z : Int32} {vs : List Value} {d : Value} (V : Arv Z h a kc .char z vs d) {j : Int32} (hj : ¬ j < 0 ∧ j < z) {v : Value} (hv : vs.getD j.toNatClampNeg d = v)
    {g : JFrame} (hg : g.method = m) {rest : List Value} (hs : g.stack = .int j :: .ref a :: rest) (hd : decode c.code g.pc = .ok (.caload, 1)) (q : G T { g with pc := g.pc + 1, stack := v :: rest }) : G T g := by
  obtain ⟨locs, X, eT, hZ, hown, r⟩ := S
  obtain ⟨cl, A, q1, q2, q3, q4, q5⟩ := V
  exact hG.st (fun t q => X.caload hx (by rw [eT]; exact A.1) (State.isArrayOf_alike hZ.alike A.2.1) A.2.2 (inb_of q2 hj) (q4.at (inb_of q2 hj) hv) hg hs hd t q) q
theorem Sit.aaload (hG : Cl p e below G) (S : Sit p l e R s m args below meth c Z EL own vm T h k n) (hx : p.tables.exec = Jvm.exec) {kc : ClassId} {ty : FieldType} {z : Int32} {vs : List Value} {d : Value} (V : Arv Z h a kc ty z vs d) (hty : ty.isReference = true) {j : Int32} (hj : ¬ j < 0 ∧ j < z) {v : Value} (hv : vs.getD j.toNatClampNeg d = v)
    {g : JFrame} (hg : g.method = m) {rest : List Value} (hs : g.stack = .int j :: .ref a :: rest) (hd : decode c.code g.pc = .ok (.aaload, 1)) (q : G T { g with pc := g.pc + 1, stack := v :: rest }) : G T g := by
  obtain ⟨locs, X, eT, hZ, hown, r⟩ := S
  obtain ⟨cl, A, q1, q2, q3, q4, q5⟩ := V
  exact hG.st (fun t q => X.aaload hx (by rw [eT]; exact A.1) (State.isArrayOf_alike hZ.alike A.2.1) hty A.2.2 (inb_of q2 hj) (q4.at (inb_of q2 hj) hv) hg hs hd t q) q
theorem Sit.arraylength (hG : Cl p e below G) (S : Sit p l e R s m args below meth c Z EL own vm T h k n) (hx : p.tables.exec = Jvm.exec) {kc : ClassId} {ty : FieldType} {z : Int32} {vs : List Value} {d : Value} (V : Arv Z h a kc ty z vs d)
    {g : JFrame} (hg : g.method = m) {rest : List Value} (hs : g.stack = .ref a :: rest) (hd : decode c.code g.pc = .ok (.arraylength, 1)) (q : G T { g with pc := g.pc + 1, stack := .int z :: rest }) : G T g := by
  obtain ⟨locs, X, eT, hZ, hown, r⟩ := S
  obtain ⟨cl, A, q1, q2, q3, q4, q5⟩ := V
  exact hG.st (fun t q => X.arraylength hx (by rw [eT]; exact A.1) (State.isArrayOf_alike hZ.alike A.2.1) hg hs hd t (by rw [len_of q2 q3]; exact q)) q
theorem Sit.acmp (hG : Cl p e below G) (S : Sit p l e R s m args below meth c Z EL own vm T h k n) (hx : p.tables.exec = Jvm.exec) {g : JFrame} (hg : g.method = m) {cd : ACond} {v w : Value} (h1 : v.isRef = true) (h2 : w.isRef = true) {rest : List Value} {o : Int} {pc0 pc' : Nat} {same : Bool} (hpc : g.pc = pc0)
    (hd : decode c.code g.pc = .ok (.if_acmp cd o, 3)) (hs : g.stack = w :: v :: rest) (hq : decide (v = w) = same) (ho : 0 ≤ (pc0 : Int) + o) (hp : pc' = if acV cd same = true then ((pc0 : Int) + o).toNat else pc0 + 3) (q : G T { g with pc := pc', stack := rest }) : G T g := by
  obtain ⟨_, X, -⟩ := S
  exact hG.st (fun t r => RoadKit.acmp X hx hg h1 h2 hpc hd hs hq ho hp r) q
theorem Sit.instNull (hG : Cl p e below G) (S : Sit p l e R s m args below meth c Z EL own vm T h k n) (hx : p.tables.exec = Jvm.exec) {g : JFrame} (hg : g.method = m) {rest : List Value} (hs : g.stack = .null :: rest) {i : Nat} (hd : decode c.code g.pc = .ok (.instanceof i, 3)) (q : G T { g with pc := g.pc + 3, stack := .int 0 :: rest }) : G T g := by
  obtain ⟨_, X, -⟩ := S
  exact hG.st (fun t r => X.instanceofNull hx hg hs hd t r) q
theorem Sit.castNull (hG : Cl p e below G) (S : Sit p l e R s m args below meth c Z EL own vm T h k n) (hx : p.tables.exec = Jvm.exec) {g : JFrame} (hg : g.method = m) {rest : List Value} (hs : g.stack = .null :: rest) {i : Nat} (hd : decode c.code g.pc = .ok (.checkcast i, 3)) (q : G T { g with pc := g.pc + 3 }) : G T g := by
  obtain ⟨_, X, -⟩ := S
  exact hG.st (fun t r => X.checkcastNull hx hg hs hd t r) q
theorem Sit.ldcI (hG : Cl p e below G) (S : Sit p l e R s m args below meth c Z EL own vm T h k n) (hx : p.tables.exec = Jvm.exec) {index : Nat} {z : Int32} (w : (Jvm.Cond.constant own index z).before a0 Z = true) {g : JFrame} (hg : g.method = m) (hd : decode c.code g.pc = .ok (.ldc index, 2)) (q : G T { g with pc := g.pc + 2, stack := .int z :: g.stack }) : G T g := by
  obtain ⟨_, X, _, hZ, hown, -⟩ := S
  exact hG.st (fun t r => X.ldcInt hx hown (mvT hZ w) hg hd t r) q
theorem Sit.initO (hG : Cl p e below G) (S : Sit p l e R s m args below meth c Z EL own vm T h k n) (hx : p.tables.exec = Jvm.exec) {idx : Nat} (w1 : (Jvm.Cond.methodLink own idx Lib.objectInit).before a0 Z = true) (w2 : (Jvm.Cond.instanceMethod Lib.objectInit).before a0 Z = true) (w3 : (Jvm.Cond.code Lib.objectInit ⟨#[0xb1]⟩ 1 none).before a0 Z = true)
    {g : JFrame} (hg : g.method = m) (hsize : g.locals.size = c.maxLocals) {rest : List Value} (hs : g.stack = .ref a :: rest) (hd : decode c.code g.pc = .ok (.invokespecial idx, 3)) (hf : 1 ≤ R.frames) {W : Nat} (hW : 2 * g.monitorRoom + (rest.map fun v => v.category).sum ≤ W) (hl : W + 12 ≤ R.locals)
    (K : ∀ T', Sit p l e R s m args below meth c Z EL own vm T' h k n → G T' { g with pc := g.pc + 3, stack := rest }) : G T g := by
  obtain ⟨locs, X, eT, hZ, hown, r⟩ := S
  obtain ⟨T', X', e', st⟩ := RoadKit.initO X hx hZ hown w1 w2 w3 eT hg hsize hs hd hf hW hl
  exact hG.st st (K T' ⟨locs, X', e', hZ, hown, r⟩)
theorem Sit.castY (hG : Cl p e below G) (S : Sit p l e R s m args below meth c Z EL own vm T h k n) (hx : p.tables.exec = Jvm.exec) {K0 : String} {index : Nat} (w : (Jvm.Cond.classLink own index K0).before a0 Z = true) (F : Ins Z h a K0 true)
    {g : JFrame} (hg : g.method = m) {rest : List Value} (hs : g.stack = .ref a :: rest) (hd : decode c.code g.pc = .ok (.checkcast index, 3)) (K : ∀ T', Sit p l e R s m args below meth c Z EL own vm T' h k n → G T' { g with pc := g.pc + 3 }) : G T g := by
  obtain ⟨locs, X, eT, hZ, hown, r⟩ := S
  obtain ⟨T', X', e', st⟩ := RoadKit.castY X hx hZ hown w eT F hg hs hd
  exact hG.st st (K T' ⟨locs, X', e', hZ, hown, r⟩)
theorem Sit.cloneA (hG : Cl p e below G) (S : Sit p l e R s m args below meth c Z EL own vm T h k n) (hx : p.tables.exec = Jvm.exec) {ad : String} {index : Nat}
    (w1 : (Jvm.Cond.methodLink own index ⟨ad, "clone", "()Ljava/lang/Object;"⟩).before a0 Z = true) (w2 : (Jvm.Cond.sameMethod ad "java/lang/Object" "clone" "()Ljava/lang/Object;").before a0 Z = true) (w3 : (Jvm.Cond.native ⟨"java/lang/Object", "clone", "()Ljava/lang/Object;"⟩).before a0 Z = true)
    (w4 : (Jvm.Cond.instanceMethod ⟨"java/lang/Object", "clone", "()Ljava/lang/Object;"⟩).before a0 Z = true) (w5 : (Jvm.Cond.selects ad ⟨ad, "clone", "()Ljava/lang/Object;"⟩ ⟨"java/lang/Object", "clone", "()Ljava/lang/Object;"⟩).before a0 Z = true) (w6 : (Jvm.Cond.castable ad "java/lang/Cloneable").before a0 Z = true)
    {kc : ClassId} {ty : FieldType} {z : Int32} {vs : List Value} {d : Value} (F : Arv Z h a kc ty z vs d) (E : Exa Z h a ad) {g : JFrame} (hg : g.method = m) (hsize : g.locals.size = c.maxLocals) {rest : List Value} (hst : g.stack = .ref a :: rest) (hd : decode c.code g.pc = .ok (.invokevirtual index, 3))
    (hf : 1 ≤ R.frames) {W cap : Nat} (hW : 2 * g.monitorRoom + (rest.map fun v => v.category).sum ≤ W) (hl : W + 14 ≤ R.locals) (hcap : z.toNatClampNeg ≤ cap) (hc : k + 1 ≤ R.cells) (hsl : n + cap ≤ R.slots)
    (K : ∀ T' h' x, x = h.size → Sit p l e R s m args below meth c Z EL own vm T' h' (k + 1) (n + cap) → Stp Z EL vm h vm h' [] → Arv Z h' x kc ty z vs d → Exa Z h' x ad → G T' { g with pc := g.pc + 3, stack := .ref x :: rest }) : G T g := by
  obtain ⟨locs, X, eT, hZ, hown, ⟨j, hS, hj⟩, C0, r⟩ := S
  obtain ⟨T', h', X', e', E', A, D, st⟩ := RoadKit.cloneH X hx hZ hown w1 w2 w3 w4 w5 w6 eT F.arh E hg hsize hst hd hf hW hl hcap hc hsl
  exact hG.st st (K T' h' _ rfl ⟨locs, X', e', hZ, hown, ⟨j, hS, Nat.le_trans hj E'.1⟩, C0.trans (CHr.ext E' C0.1), r⟩ (Stp.of_ext E' C0.1) A D)
theorem afterN {locs L : List Loc} {U : State} {k' n' : Nat} (eT : T.heap = h) (hZ : Z.Warmed39 vm) (hown : vm.findClass own = some m.cls) (hS : ∃ j, s.Since vm j ∧ j ≤ h.size) (C : CHr Z EL s.vm s.heap vm h) (N : Fr Z.heap.size locs) (O : Ext Z.heap s.heap) (hN : Nar s vm)
    (X' : Stand p l e R (s.setVm vm) m args below meth c U (locs ++ L) k' n') (g2 : h.size ≤ U.heap.size) (N' : Fr Z.heap.size L) (C' : CHr Z EL vm h vm U.heap) : Sit p l e R s m args below meth c Z EL own vm U U.heap k' n' := by
  obtain ⟨j, hS, hj⟩ := hS
  exact ⟨_, X', rfl, hZ, hown, ⟨j, hS, Nat.le_trans hj g2⟩, C.trans C', N.app N', O, hN⟩
/-- calls by contract -/
theorem Sit.callS (hG : Cl p e below G) (S : Sit p l e R s m args below meth c Z EL own vm T h k n) (hx : p.tables.exec = Jvm.exec) {index : Nat} {y : MethodName} {bytes : ByteArray} {maxL : Nat} {ret : Option FieldType} {rm : Room} {as : List Value} {Q : Option Value → Heap → Prop}
    (wl : (Jvm.Cond.methodLink own index y).before a0 Z = true) (wt : (Jvm.Cond.static y).before a0 Z = true) (wz : (Jvm.Cond.initialized y.cls).before a0 Z = true) (wc : (Jvm.Cond.code y bytes maxL ret).before a0 Z = true) (hy : y.cls ≠ "java/lang/invoke/MethodHandle" ∧ y.cls ≠ "java/lang/invoke/VarHandle")
    (hM : Con l Z EL y bytes maxL ret [] rm as.toArray h Q) {ps : List FieldType} {r : Option FieldType} (hd0 : parseMethodDescriptor y.desc = some ⟨ps, r⟩) (hlen : as.length = ps.length)
    {g : JFrame} (hg : g.method = m) (hsize : g.locals.size = c.maxLocals) {rest : List Value} (hs : g.stack = as.reverse ++ rest) {W : Nat} (hW : 2 * g.monitorRoom + (rest.map fun v => v.category).sum ≤ W) (hd : decode c.code g.pc = .ok (.invokestatic index, 3))
    (hf : rm.frames + 1 ≤ R.frames) (hl : W + (maxL + 11) + rm.locals ≤ R.locals) (hc : k + rm.cells ≤ R.cells) (hsl : n + rm.slots ≤ R.slots)
    (hQ : ∀ v h', Q v h' → Keep h h' ws) (hsf : ∀ x ∈ ws, Safe Z EL vm h x)
    (K : ∀ v vm' T' h', Sit p l e R s m args below meth c Z EL own vm' T' h' (k + rm.cells) (n + rm.slots) → CHr Z EL vm h vm' h' → Q v h' → G T' { g with pc := g.pc + 3, stack := v.toList ++ rest }) : G T g := by
  obtain ⟨locs, X, eT, hZ, hown, hS, C, N, O, hn⟩ := S
  obtain ⟨v, vm1, ⟨U, L', k', n'⟩, -, X', ⟨L, ⟨hq, hF⟩, q1, q2, q3⟩, st⟩ := Jvm.LawKit.callS X hx hown (mvT hZ wl) (mvT hZ wt) (mvT hZ wz) (mvT hZ wc) hy (backOf (W := W) (Q := fun v h L => Q v h ∧ Fr Z.heap.size L) hM hZ wc wz hf hl) hg hsize (lenOf hd0 hlen) hs hW hd (fun _ _ => ⟨rfl, eT, hc, hsl⟩)
  dsimp only [Pt.U, Pt.locs, Pt.cells, Pt.slots] at X' hq q1 q2 q3 st
  subst q1 q2 q3
  have hk := hQ v _ hq
  have hC : CHr Z EL vm h vm U.heap := CHr.keep hk hsf C.1
  exact hG.st (fun t q => st t q) (K v vm U U.heap (afterN eT hZ hown hS C N O hn X' hk.1 hF hC) hC hq)
theorem Sit.callV (hG : Cl p e below G) (S : Sit p l e R s m args below meth c Z EL own vm T h k n) (hx : p.tables.exec = Jvm.exec) {C : String} {index : Nat} {y : MethodName} {bytes : ByteArray} {maxL : Nat} {ret : Option FieldType} {rm : Room} {as : List Value} {Q : Option Value → Heap → Prop}
    (wl : (Jvm.Cond.methodLink own index y).before a0 Z = true) (wd : (Jvm.Cond.declares y).before a0 Z = true) (wsl : (Jvm.Cond.selects C y y).before a0 Z = true) (wim : (Jvm.Cond.instanceMethod y).before a0 Z = true) (wz : (Jvm.Cond.initialized y.cls).before a0 Z = true) (wc : (Jvm.Cond.code y bytes maxL ret).before a0 Z = true) (hy : y.cls ≠ "java/lang/invoke/MethodHandle" ∧ y.cls ≠ "java/lang/invoke/VarHandle")
    (E : Exa Z h b C) (hM : Con l Z EL y bytes maxL ret [] rm (.ref b :: as).toArray h Q) {ps : List FieldType} {r : Option FieldType} (hd0 : parseMethodDescriptor y.desc = some ⟨ps, r⟩) (hlen : as.length = ps.length)
    {g : JFrame} (hg : g.method = m) (hsize : g.locals.size = c.maxLocals) {rest : List Value} (hs : g.stack = as.reverse ++ .ref b :: rest) {W : Nat} (hW : 2 * g.monitorRoom + (rest.map fun v => v.category).sum ≤ W) (hd : decode c.code g.pc = .ok (.invokevirtual index, 3))
    (hf : rm.frames + 1 ≤ R.frames) (hl : W + (maxL + 11) + rm.locals ≤ R.locals) (hc : k + rm.cells ≤ R.cells) (hsl : n + rm.slots ≤ R.slots)
    (hQ : ∀ v h', Q v h' → Keep h h' ws) (hsf : ∀ x ∈ ws, Safe Z EL vm h x)
    (K : ∀ v vm' T' h', Sit p l e R s m args below meth c Z EL own vm' T' h' (k + rm.cells) (n + rm.slots) → CHr Z EL vm h vm' h' → Q v h' → G T' { g with pc := g.pc + 3, stack := v.toList ++ rest }) : G T g := by
  obtain ⟨locs, X, eT, hZ, hown, hS, C, N, O, hn⟩ := S
  obtain ⟨cB, kB, i1, -, i2⟩ := isOf (s := s.setVm vm) hZ eT E
  obtain ⟨v, vm1, ⟨U, L', k', n'⟩, -, X', ⟨L, ⟨hq, hF⟩, q1, q2, q3⟩, st⟩ := X.virtualBack hx (y := y) (z := y) hown (mvT hZ wl) (mvT hZ wd) (notFace_of_selects (args := #[]) (mvT hZ wsl)) (mvT hZ wsl) (mvT hZ wim) hy (backOf (W := W) (Q := fun v h L => Q v h ∧ Fr Z.heap.size L) hM hZ wc wz hf hl) i1 i2 hg hsize (Steps.refl _) (argsL := as) (lenOf hd0 hlen) hs hW hd (fun _ _ => ⟨rfl, eT, hc, hsl⟩)
  dsimp only [Pt.U, Pt.locs, Pt.cells, Pt.slots] at X' hq q1 q2 q3 st
  subst q1 q2 q3
  have hk := hQ v _ hq
  have hC : CHr Z EL vm h vm U.heap := CHr.keep hk hsf C.1
  exact hG.st (fun t q => st.trans q) (K v vm U U.heap (afterN eT hZ hown hS C N O hn X' hk.1 hF hC) hC hq)
theorem Sit.callI (hG : Cl p e below G) (S : Sit p l e R s m args below meth c Z EL own vm T h k n) (hx : p.tables.exec = Jvm.exec) {index : Nat} {y : MethodName} (hy1 : y.name = "<init>") {bytes : ByteArray} {maxL : Nat} {rm : Room} {as : List Value} {Q : Option Value → Heap → Prop}
    (wl : (Jvm.Cond.methodLink own index y).before a0 Z = true) (wim : (Jvm.Cond.instanceMethod y).before a0 Z = true) (wz : (Jvm.Cond.initialized y.cls).before a0 Z = true) (wc : (Jvm.Cond.code y bytes maxL none).before a0 Z = true) (hy : y.cls ≠ "java/lang/invoke/MethodHandle" ∧ y.cls ≠ "java/lang/invoke/VarHandle")
    (hM : Con l Z EL y bytes maxL none [] rm (.ref b :: as).toArray h Q) {ps : List FieldType} {r : Option FieldType} (hd0 : parseMethodDescriptor y.desc = some ⟨ps, r⟩) (hlen : as.length = ps.length)
    {g : JFrame} (hg : g.method = m) (hsize : g.locals.size = c.maxLocals) {rest : List Value} (hs : g.stack = as.reverse ++ .ref b :: rest) {W : Nat} (hW : 2 * g.monitorRoom + (rest.map fun v => v.category).sum ≤ W) (hd : decode c.code g.pc = .ok (.invokespecial index, 3))
    (hf : rm.frames + 1 ≤ R.frames) (hl : W + (maxL + 11) + rm.locals ≤ R.locals) (hc : k + rm.cells ≤ R.cells) (hsl : n + rm.slots ≤ R.slots)
    (hQ : ∀ v h', Q v h' → Keep h h' ws) (hsf : ∀ x ∈ ws, Safe Z EL vm h x)
    (K : ∀ v vm' T' h', Sit p l e R s m args below meth c Z EL own vm' T' h' (k + rm.cells) (n + rm.slots) → CHr Z EL vm h vm' h' → Q v h' → G T' { g with pc := g.pc + 3, stack := v.toList ++ rest }) : G T g := by
  obtain ⟨locs, X, eT, hZ, hown, hS, C, N, O, hn⟩ := S
  obtain ⟨v, vm1, ⟨U, L', k', n'⟩, -, X', ⟨L, ⟨hq, hF⟩, q1, q2, q3⟩, st⟩ := X.specialBack hx (y := y) hy1 hown (mvT hZ wl) (mvT hZ wim) (mvT hZ wc) hy (backOf (W := W) (Q := fun v h L => Q v h ∧ Fr Z.heap.size L) hM hZ wc wz hf hl) hg hsize (Steps.refl _) (a := b) (argsL := as) (lenOf hd0 hlen) hs hW hd (fun _ _ => ⟨rfl, eT, hc, hsl⟩)
  dsimp only [Pt.U, Pt.locs, Pt.cells, Pt.slots] at X' hq q1 q2 q3 st
  subst q1 q2 q3
  have hk := hQ v _ hq
  have hC : CHr Z EL vm h vm U.heap := CHr.keep hk hsf C.1
  exact hG.st (fun t q => st.trans q) (K v vm U U.heap (afterN eT hZ hown hS C N O hn X' hk.1 hF hC) hC hq)
theorem Sit.retN {t : FieldType} {Q : Option Value → Heap → Prop} (hR : Rt p l e R s m args below meth c Z EL own Q G) (S : Sit p l e R s m args below meth c Z EL own vm T h k n) (hx : p.tables.exec = Jvm.exec) (hret : meth.sig.returnType = some t) (ht : t = .boolean ∨ t = .byte ∨ t = .char ∨ t = .short) {pc : Nat} {Ls : Array Slot} {z : Int32} {rest : List Value} (hd : decode c.code pc = .ok (.ireturn, 1)) (hk : k ≤ R.cells) (hn : n ≤ R.slots) (hQ : Q (some (.int (nar t z))) h) : G T (mkF m pc Ls (.int z :: rest)) :=
  hR vm T h k n _ _ S hk hn (fun q => by rw [hret] at q; cases q) hQ (fun fs hr => by obtain ⟨_, X, -⟩ := S; exact RoadKit.retN X hx hret ht hd hr)
theorem Sit.retO {t : FieldType} {i : Instr} {Q : Option Value → Heap → Prop} (hR : Rt p l e R s m args below meth c Z EL own Q G) (S : Sit p l e R s m args below meth c Z EL own vm T h k n) (hx : p.tables.exec = Jvm.exec) (hret : meth.sig.returnType = some t) {pc : Nat} {Ls : Array Slot} {w : Value} {rest : List Value} (hnw : narrow t w = w)
    (hi : (i = .ireturn ∧ (t = .int ∨ t = .boolean ∨ t = .byte ∨ t = .char ∨ t = .short) ∧ ∃ z, w = .int z) ∨ (i = .lreturn ∧ t = .long ∧ ∃ z, w = .long z) ∨ (i = .dreturn ∧ t = .double ∧ ∃ z, w = .double z) ∨ (i = .freturn ∧ t = .float ∧ ∃ z, w = .float z) ∨ (i = .areturn ∧ t.isReference = true ∧ w.isRef = true))
    (hd : decode c.code pc = .ok (i, 1)) (hk : k ≤ R.cells) (hn : n ≤ R.slots) (hQ : Q (some w) h) : G T (mkF m pc Ls (w :: rest)) :=
  hR vm T h k n _ _ S hk hn (fun q => by rw [hret] at q; cases q) hQ (fun fs hr => by obtain ⟨_, X, -⟩ := S; exact RoadKit.retOut X hx hret hnw hi hd hr)
theorem Sit.ret0 {Q : Option Value → Heap → Prop} (hR : Rt p l e R s m args below meth c Z EL own Q G) (S : Sit p l e R s m args below meth c Z EL own vm T h k n) (hx : p.tables.exec = Jvm.exec) (hret : meth.sig.returnType = none) {pc : Nat} {Ls : Array Slot} (hd : decode c.code pc = .ok (.return_, 1)) (hk : k ≤ R.cells) (hn : n ≤ R.slots) (hQ : Q none h) : G T (mkF m pc Ls []) :=
  hR vm T h k n _ _ S hk hn (fun q => rfl) hQ (fun fs hr => by obtain ⟨_, X, -⟩ := S; exact X.returnOut hx hret hd hr)
theorem Con.of {y : MethodName} {bytes : ByteArray} {maxL : Nat} {ret : Option FieldType} {cw : List Jvm.Cond} {rm : Room} {as : Array Value} {Q : Option Value → Heap → Prop} (hp : plainFor y = true) (hEL0 : EL = []) (hO : Ext Z.heap h)
    (body : ∀ {p : Program} {e : Env} {s : State} {m : MethodId} {below : List Frame} {meth : Method} {c : Code} {T : State} {G : State → JFrame → Prop} {vm : Vm}, p.tables.exec = Jvm.exec → c.code = bytes → c.maxLocals = maxL → meth.sig.returnType = ret → meth.name = y.name → Cl p e below G → Rt p l e rm s m as below meth c Z EL y.cls Q G → Sit p l e rm s m as below meth c Z EL y.cls vm T h 0 0 → G T (entryFrame m as maxL)) :
    Con l Z EL y bytes maxL ret cw rm as h Q := by
  refine MetFree.of_bodySF hp hisR ?_
  intro p e s m args below meth c s₁ Bd hml0 hP hK
  obtain ⟨rfl, hZ, rfl⟩ := hP
  have hC : CHv Z EL s.vm s.heap := hEL0 ▸ fun _ q => nomatch q
  have X0 : Stand p l e rm s m args below meth c s₁ [] 0 0 := Stand.of_body Bd
  have e0 : s₁.heap = s.heap := by rw [Bd.state]; rfl
  have hlk : meth.locks = false := Bd.notSynchronized
  have hX : Stand p l e rm (s.setVm s.vm) m args below meth c s₁ [] 0 0 := by rw [State.setVm_self]; exact X0
  refine body (G := fun T g => ∃ s₂ o, Steps p.tables e below (T.setTop g) s₂ ∧ s₂.status = .running ∧ Ended s₂ below o ∧ ∃ v L, o = .returned v ∧ (Q v s₂.heap ∧ Fr Z.heap.size L) ∧ FrameEnd s o s₂ L rm.cells rm.slots) (vm := s.vm) Bd.exec Bd.bytes hml0 Bd.returns (name_of_methodNamed Bd.named Bd.method).1 (fun T T' g g' f ⟨s₂, o, st, r⟩ => ⟨s₂, o, f _ st, r⟩) ?_
    ⟨[], hX, e0, hZ, findClass_of_methodNamed Bd.named, ⟨_, (State.WarmedH.refl s).since _, Nat.le_refl _⟩, CHr.refl hC, Fr.nil _, hO, rfl⟩
  intro vm T h k n v g S hk hn hv hQ hst
  obtain ⟨locs, X, rfl, hZ', hown', ⟨j, hS, hj⟩, C0, N, O, hN⟩ := S
  obtain rfl : vm = s.vm := hN
  rw [State.setVm_self] at X
  obtain ⟨fs, hr, hrun, hended, hW, hsame⟩ := X.leave hv hlk
  exact ⟨_, _, hst fs hr, hrun, hended, v, locs, rfl, ⟨hQ, N⟩, ⟨_, rfl⟩, hW, hsame.mono hk hn⟩
end L
end Jvm.Pilot.@@N@@.Own
namespace Jvm.Pilot.@@N@@.Own
open Jvm Jvm.ClassFile Sem Op Lib Jvm.Free Jvm.Stand Jvm.LawKit Jvm.RoadKit
section L2
variable {p : Program} {l : Launch} {e : Env} {R : Room} {s : State} {m : MethodId} {args : Array Value} {below : List Frame} {meth : Method} {c : Code} {Z : State} {EL : List (String × Nat)} {own : String} {a0 : Array Value} {vm vm' vm'' : Vm} {T T' : State} {h h' h'' : Heap} {k n : Nat} {G : State → JFrame → Prop} {ws ws' us : List Addr} {x a b t : Addr}
/-- COMPACT_STRINGS is on -/
def Cmp (Z : State) : Prop := ∃ z : Int32, Sta Z Z.heap ST "COMPACT_STRINGS" "Z" (.int z) ∧ ¬ z = 0
def Sio (Z : State) : Prop := ∃ fm : Value, Sta Z Z.heap "jdk/internal/util/Preconditions" "SIOOBE_FORMATTER" "Ljava/util/function/BiFunction;" fm ∧ fm.isRef = true
theorem up (cs : List Int32) (h : ∀ c ∈ cs, ¬ c < 0 ∧ ¬ (255 : Int32) < c) : ∀ c ∈ cs, ¬ c < 0 ∧ ¬ (65535 : Int32) < c := fun c hc => ⟨(h c hc).1, fun q => (h c hc).2 (by rw [Int32.lt_iff_toInt_lt] at q ⊢; have e1 : (65535 : Int32).toInt = 65535 := rfl; have e2 : (255 : Int32).toInt = 255 := rfl; omega)⟩
/-- a pure virtual call paid by a Back -/
theorem Sit.pureV (hG : Cl p e below G) (S : Sit p l e R s m args below meth c Z EL own vm T h k n) (hx : p.tables.exec = Jvm.exec) {C : String} {index : Nat} {y : MethodName} {as : List Value} {Q : Option Value → Prop}
    (wl : (Jvm.Cond.methodLink own index y).before a0 Z = true) (wd : (Jvm.Cond.declares y).before a0 Z = true) (wsl : (Jvm.Cond.selects C y y).before a0 Z = true) (wim : (Jvm.Cond.instanceMethod y).before a0 Z = true) (hy : y.cls ≠ "java/lang/invoke/MethodHandle" ∧ y.cls ≠ "java/lang/invoke/VarHandle")
    (E : Exa Z h b C) {W : Nat} (hK : Back l R p e below (s.setVm vm) args y 3 W (fun P a => a = (.ref b :: as).toArray ∧ P.U.heap = h ∧ P.cells + 0 ≤ R.cells ∧ P.slots + 0 ≤ R.slots) (fun P _ v B => ∃ L, (Q v ∧ L = [] ∧ B.U.heap = h) ∧ B.locs = P.locs ++ L ∧ B.cells = P.cells + 0 ∧ B.slots = P.slots + 0))
    {ps : List FieldType} {r : Option FieldType} (hd0 : parseMethodDescriptor y.desc = some ⟨ps, r⟩) (hlen : as.length = ps.length)
    {g : JFrame} (hg : g.method = m) (hsize : g.locals.size = c.maxLocals) {rest : List Value} (hs : g.stack = as.reverse ++ .ref b :: rest) (hW : 2 * g.monitorRoom + (rest.map fun v => v.category).sum ≤ W) (hd : decode c.code g.pc = .ok (.invokevirtual index, 3)) (hc : k ≤ R.cells) (hsl : n ≤ R.slots)
    (K : ∀ v T', Sit p l e R s m args below meth c Z EL own vm T' h k n → Q v → G T' { g with pc := g.pc + 3, stack := v.toList ++ rest }) : G T g := by
  obtain ⟨locs, X, eT, hZ, hown, hS, C, N, O, hn⟩ := S
  obtain ⟨cB, kB, i1, -, i2⟩ := isOf (s := s.setVm vm) hZ eT E
  obtain ⟨v, vm1, ⟨U, L', k', n'⟩, -, X', ⟨L, ⟨hq, hL, hU⟩, q1, q2, q3⟩, st⟩ := X.virtualBack hx (y := y) (z := y) hown (mvT hZ wl) (mvT hZ wd) (notFace_of_selects (args := #[]) (mvT hZ wsl)) (mvT hZ wsl) (mvT hZ wim) hy hK i1 i2 hg hsize (Steps.refl _) (argsL := as) (lenOf hd0 hlen) hs hW hd (fun _ _ => ⟨rfl, eT, hc, hsl⟩)
  dsimp only [Pt.U, Pt.locs, Pt.cells, Pt.slots] at X' hU q1 q2 q3 st
  subst q1 q2 q3 hL
  rw [List.append_nil] at X'
  exact hG.st (fun t q => st.trans q) (K v U ⟨locs, X', hU, hZ, hown, hS, C, N, O, hn⟩ hq)
section Nw
variable {args : Array Value} {u v : Term} {z : Int32} {vs : List Value} {dv : Value} {ty : FieldType} {cs : List Int32}
theorem eqI (h : (Jvm.Cond.eq u v).value args s none s [] = some true) (hb : v.eval args s none [] s = some (.int z)) : u.eval args s none [] s = some (.int z) := by
  obtain ⟨x, y, h1, h2, h3, h4⟩ := cmp_v (Or.inl h)
  cases h2.symm.trans hb
  obtain ⟨w, rfl⟩ := h4
  have := gotT (Cond.eq_ints h1 hb) h
  rw [h1, this]
theorem eqR (h : (Jvm.Cond.eq u v).value args s none s [] = some true) (hb : v.eval args s none [] s = some (.ref a)) : u.eval args s none [] s = some (.ref a) := by
  obtain ⟨x, y, h1, h2, h3, h4⟩ := cmp_v (Or.inl h)
  cases h2.symm.trans hb
  have := gotT (eq_R h1 hb h4.2 rfl) h
  rw [h1, this]
theorem eqR2 (h : (Jvm.Cond.eq u v).value args s none s [] = some true) (hb : u.eval args s none [] s = some (.ref a)) : v.eval args s none [] s = some (.ref a) := by
  obtain ⟨x, y, h1, h2, h3, h4⟩ := cmp_v (Or.inl h)
  cases h1.symm.trans hb
  have := gotT (eq_R hb h2 rfl h3.2) h
  rw [h2, ← this]
theorem arvOf (hf : Fit s) (ev : u.eval args s none [] s = some (.ref a)) (hA : (Jvm.Cond.arrayOf u ty).value args s none s [] = some true) (hl : (Jvm.Cond.eq (.length u) (.int z)).value args s none s [] = some true) (hz : ¬ z < 0) (hn : z.toNatClampNeg = vs.length)
    (hv : ∀ i (hi : i < vs.length), (Term.elem u (.int (Int32.ofNat i))).eval args s none [] s = some vs[i]) : ∃ kc, Arv s s.heap a kc ty z vs dv := by
  obtain ⟨cl, A⟩ := Arr.start ev hA
  have hlen := eqI hl (Term.int_eval z)
  have hat : s.arrayAt? a = some cl := A.fin ⟨rfl, rfl, fun _ k hk => ⟨k, hk, rfl⟩⟩
  have h31 := SBG.length_lt ev hat hlen
  have hs : cl.slots.size.toInt32 = z := by
    have := (len_f ev hat h31).symm.trans hlen
    simpa using this
  have hsz : cl.slots.size = z.toNatClampNeg := by
    rw [← hs]
    show _ = (Int32.ofNat cl.slots.size).toNatClampNeg
    simp [Int32.toNatClampNeg, Int32.toInt_ofNat_small h31]
  have hel : ∀ i, i < cl.slots.size → cl.slots[i]? = some (vs.getD i dv) := fun i hi => by
    have hi' : i < vs.length := by omega
    have q := elem_in (hv i hi') ev (Term.int_eval _) A.1
    have e : (Int32.ofNat i).toNatClampNeg = i := by simp [Int32.toNatClampNeg, Int32.toInt_ofNat_small (show i < 2 ^ 31 by omega)]
    rw [e] at q
    rw [q.2]; simp [hi']
  refine ⟨cl.cls, cl, A, rfl, hsz, hz, hel, fun i hi => ?_⟩
  have e : (Int32.ofNat i).toNatClampNeg = i := by simp [Int32.toNatClampNeg, Int32.toInt_ofNat_small (show i < 2 ^ 31 by omega)]
  have hnn : ¬ (Int32.ofNat i < 0 ∨ cl.slots.size ≤ (Int32.ofNat i).toNatClampNeg) := by
    rw [e, Int32.lt_iff_toInt_lt, Int32.toInt_ofNat_small (show i < 2 ^ 31 by omega)]
    have : (0 : Int32).toInt = 0 := rfl
    omega
  obtain ⟨w, hw1, hw2⟩ := elem_fit hf A hnn
  rw [e, hel i hi] at hw1
  cases hw1
  exact hw2
theorem strOf (hf : Fit s) (ev : u.eval args s none [] s = some (.ref x)) (E : Exa s s.heap x ST) (hc : (Term.field u ST "coder" "B").eval args s none [] s = some (.int 0)) (hv : (Term.field u ST "value" "[B").eval args s none [] s = some (.ref t))
    (hA : (Jvm.Cond.arrayOf (.field u ST "value" "[B") .byte).value args s none s [] = some true) (hl : (Jvm.Cond.eq (.length (.field u ST "value" "[B")) (.int (Int32.ofNat cs.length))).value args s none s [] = some true) (hr : ∀ c ∈ cs, ¬ c < 0 ∧ ¬ (255 : Int32) < c) (hn : cs.length ≤ 4000) (hz : (Int32.ofNat cs.length).toNatClampNeg = cs.length)
    (he : ∀ i (hi : i < cs.length), (Term.elem (.field u ST "value" "[B") (.int (Int32.ofNat i))).eval args s none [] s = some (.int (cs[i]).toInt8.toInt32)) : Str s s.heap x t cs := by
  have hz0 : ¬ Int32.ofNat cs.length < 0 := by
    rw [Int32.lt_iff_toInt_lt, Int32.toInt_ofNat_small (by omega)]
    exact Int.not_lt.mpr (Int.natCast_nonneg _)
  obtain ⟨kc, A⟩ := arvOf (dv := .int 0) (vs := (cs.map fun c => c.toInt8.toInt32).map Value.int) hf hv hA hl hz0 (by rw [hz]; simp) (fun i hi => by
    have hi' : i < cs.length := by simpa using hi
    rw [he i hi']; simp)
  exact ⟨kc, E, Fld.start ((fld_at ev).symm.trans hv), Fld.start ((fld_at ev).symm.trans hc), A, hr, hn⟩
end Nw
theorem Sit.strLen (hG : Cl p e below G) (S : Sit p l e R s m args below meth c Z EL own vm T h k n) (hx : p.tables.exec = Jvm.exec) (hws : ∀ d ∈ StrChars.Road.wordsLen, d.before a0 Z = true) (hcs : Cmp Z) (wi : (Jvm.Cond.instantiable ST 4).before a0 Z = true) {index : Nat}
    (wl : (Jvm.Cond.methodLink own index ⟨"java/lang/String", "length", "()I"⟩).before a0 Z = true) (wd : (Jvm.Cond.declares ⟨"java/lang/String", "length", "()I"⟩).before a0 Z = true) (wsl : (Jvm.Cond.selects ST ⟨"java/lang/String", "length", "()I"⟩ ⟨"java/lang/String", "length", "()I"⟩).before a0 Z = true) (wim : (Jvm.Cond.instanceMethod ⟨"java/lang/String", "length", "()I"⟩).before a0 Z = true)
    {cs : List Int32} (F : Str Z h b t cs) {g : JFrame} (hg : g.method = m) (hsize : g.locals.size = c.maxLocals) {rest : List Value} (hs : g.stack = .ref b :: rest) {W : Nat} (hW : 2 * g.monitorRoom + (rest.map fun v => v.category).sum ≤ W) (hd : decode c.code g.pc = .ok (.invokevirtual index, 3)) (hf : 2 ≤ R.frames) (hl : W + 25 ≤ R.locals) (hc : k ≤ R.cells) (hsl : n ≤ R.slots)
    (K : ∀ T', Sit p l e R s m args below meth c Z EL own vm T' h k n → G T' { g with pc := g.pc + 3, stack := .int (Int32.ofNat cs.length) :: rest }) : G T g := by
  obtain ⟨z, hz1, hz2⟩ := hcs
  obtain ⟨kb, q1, q2, q3, q4, q5, q6⟩ := F
  have hcd := StrChars.Road.codOf (cs := cs) (n := cs.length) rfl (fun c hc => (q5 c hc).2)
  refine S.pureV hG hx (Q := fun v => v = some (.int (Int32.ofNat cs.length))) wl wd wsl wim (by decide) q1 (as := []) (W := W) (StrChars.Road.lenW (W := W) S.warm hws wi q1 q2 q3 q4 hcd (up _ q5) (hz1.ext S.old) hz2 q6 hf hl) (ps := []) (r := some .int) (by decide +kernel) rfl hg hsize (rest := rest) hs hW hd hc hsl ?_
  rintro v T' S' rfl
  exact K T' S'
theorem Sit.strEmp (hG : Cl p e below G) (S : Sit p l e R s m args below meth c Z EL own vm T h k n) (hx : p.tables.exec = Jvm.exec) (hws : ∀ d ∈ StrChars.Road.wordsEmp, d.before a0 Z = true) (wi : (Jvm.Cond.instantiable ST 4).before a0 Z = true) {index : Nat}
    (wl : (Jvm.Cond.methodLink own index ⟨"java/lang/String", "isEmpty", "()Z"⟩).before a0 Z = true) (wd : (Jvm.Cond.declares ⟨"java/lang/String", "isEmpty", "()Z"⟩).before a0 Z = true) (wsl : (Jvm.Cond.selects ST ⟨"java/lang/String", "isEmpty", "()Z"⟩ ⟨"java/lang/String", "isEmpty", "()Z"⟩).before a0 Z = true) (wim : (Jvm.Cond.instanceMethod ⟨"java/lang/String", "isEmpty", "()Z"⟩).before a0 Z = true)
    {cs : List Int32} (F : Str Z h b t cs) {g : JFrame} (hg : g.method = m) (hsize : g.locals.size = c.maxLocals) {rest : List Value} (hs : g.stack = .ref b :: rest) {W : Nat} (hW : 2 * g.monitorRoom + (rest.map fun v => v.category).sum ≤ W) (hd : decode c.code g.pc = .ok (.invokevirtual index, 3)) (hf : 1 ≤ R.frames) (hl : W + 12 ≤ R.locals) (hc : k ≤ R.cells) (hsl : n ≤ R.slots)
    (K : ∀ T', Sit p l e R s m args below meth c Z EL own vm T' h k n → G T' { g with pc := g.pc + 3, stack := .int (if cs.length = 0 then 1 else 0) :: rest }) : G T g := by
  obtain ⟨kb, q1, q2, q3, q4, q5, q6⟩ := F
  have hcd := StrChars.Road.codOf (cs := cs) (n := cs.length) rfl (fun c hc => (q5 c hc).2)
  refine S.pureV hG hx (Q := fun v => v = some (.int (if cs.length = 0 then 1 else 0))) wl wd wsl wim (by decide) q1 (as := []) (W := W) (StrChars.Road.empW (W := W) S.warm hws wi q1 q2 q3 q4 hcd (up _ q5) q6 hf hl) (ps := []) (r := some .boolean) (by decide +kernel) rfl hg hsize (rest := rest) hs hW hd hc hsl ?_
  rintro v T' S' rfl
  exact K T' S'
theorem Sit.strChar (hG : Cl p e below G) (S : Sit p l e R s m args below meth c Z EL own vm T h k n) (hx : p.tables.exec = Jvm.exec) (hws : ∀ d ∈ StrChars.Road.wordsChN, d.before a0 Z = true) (hcs : Cmp Z) (hsi : Sio Z) (wi : (Jvm.Cond.instantiable ST 4).before a0 Z = true) {index : Nat}
    (wl : (Jvm.Cond.methodLink own index ⟨"java/lang/String", "charAt", "(I)C"⟩).before a0 Z = true) (wd : (Jvm.Cond.declares ⟨"java/lang/String", "charAt", "(I)C"⟩).before a0 Z = true) (wsl : (Jvm.Cond.selects ST ⟨"java/lang/String", "charAt", "(I)C"⟩ ⟨"java/lang/String", "charAt", "(I)C"⟩).before a0 Z = true) (wim : (Jvm.Cond.instanceMethod ⟨"java/lang/String", "charAt", "(I)C"⟩).before a0 Z = true)
    {cs : List Int32} (F : Str Z h b t cs) {i : Nat} {j : Int32} (hi : i < cs.length) (hj : j = Int32.ofNat i) {g : JFrame} (hg : g.method = m) (hsize : g.locals.size = c.maxLocals) {rest : List Value} (hs : g.stack = .int j :: .ref b :: rest) {W : Nat} (hW : 2 * g.monitorRoom + (rest.map fun v => v.category).sum ≤ W) (hd : decode c.code g.pc = .ok (.invokevirtual index, 3)) (hf : 4 ≤ R.frames) (hl : W + 53 ≤ R.locals) (hc : k ≤ R.cells) (hsl : n ≤ R.slots)
    (K : ∀ T', Sit p l e R s m args below meth c Z EL own vm T' h k n → G T' { g with pc := g.pc + 3, stack := .int (cs.getD i 0) :: rest }) : G T g := by
  obtain ⟨z, hz1, hz2⟩ := hcs
  obtain ⟨fm, hm1, hm2⟩ := hsi
  obtain ⟨kb, q1, q2, q3, q4, q5, q6⟩ := F
  have hcd := StrChars.Road.codOf (cs := cs) (n := cs.length) rfl (fun c hc => (q5 c hc).2)
  refine S.pureV hG hx (Q := fun v => v = some (.int (cs.getD i 0))) wl wd wsl wim (by decide) q1 (as := [.int j]) (W := W) (StrChars.Road.chN (W := W) S.warm hws wi q1 q2 q3 q4 hcd (up _ q5) (hz1.ext S.old) hz2 (hm1.ext S.old) hm2 q6 hi hj hf hl) (ps := [.int]) (r := some .char) (by decide +kernel) rfl hg hsize (rest := rest) hs hW hd hc hsl ?_
  rintro v T' S' rfl
  exact K T' S'
theorem Sit.newStr (hG : Cl p e below G) (S : Sit p l e R s m args below meth c Z EL own vm T h k n) (hx : p.tables.exec = Jvm.exec) (hws : ∀ d ∈ StrChars.Road.words, d.before a0 Z = true) (hcs : Cmp Z) (wi : (Jvm.Cond.instantiable ST 4).before a0 Z = true) {index : Nat}
    (wl : (Jvm.Cond.methodLink own index ⟨"java/lang/String", "<init>", "([C)V"⟩).before a0 Z = true) (wim : (Jvm.Cond.instanceMethod ⟨"java/lang/String", "<init>", "([C)V"⟩).before a0 Z = true)
    {cs : List Int32} {kC : ClassId} {d v0 c0 : Value} {zn : Int32} (gx : Z.heap.size ≤ x) (sf : Safe Z EL vm h x) (E : Exa Z h x ST) (V : Fld Z h x ST "value" "[B" v0) (C : Fld Z h x ST "coder" "B" c0) (A : Arv Z h b kC .char zn (cs.map Value.int) d) (hN : zn = Int32.ofNat cs.length) (l0 : 0 < cs.length) (l2 : cs.length ≤ 4000) (hp : ∀ c ∈ cs, ¬ c < 0 ∧ ¬ (255 : Int32) < c)
    {nn : Nat} (hnn : cs.length ≤ nn) {g : JFrame} (hg : g.method = m) (hsize : g.locals.size = c.maxLocals) {rest : List Value} (hs : g.stack = .ref b :: .ref x :: rest) {W : Nat} (hW : 2 * g.monitorRoom + (rest.map fun v => v.category).sum ≤ W) (hd : decode c.code g.pc = .ok (.invokespecial index, 3)) (hf : 4 ≤ R.frames) (hl : W + 65 ≤ R.locals) (hc : k + 1 ≤ R.cells) (hsl : n + nn ≤ R.slots)
    (K : ∀ T' h' t, Sit p l e R s m args below meth c Z EL own vm T' h' (k + 1) (n + nn) → Stp Z EL vm h vm h' [x] → h.size ≤ t → Str Z h' x t cs → G T' { g with pc := g.pc + 3, stack := rest }) : G T g := by
  obtain ⟨z, hz1, hz2⟩ := hcs
  have ho := S.old
  obtain ⟨locs, X, eT, hZ, hown, ⟨j, hS, hj⟩, C0, N, O, hn⟩ := S
  obtain ⟨v, vm1, ⟨U, L', k', n'⟩, -, X', ⟨L, hQ, q1, q2, q3⟩, st⟩ := X.specialBack hx (y := (⟨"java/lang/String", "<init>", "([C)V"⟩ : MethodName)) rfl hown (mvT hZ wl) (mvT hZ wim) (mvT hZ (hws _ List.mem_cons_self)) (by decide) (StrChars.Road.backV (W := W) (bs := cs.map (fun c => c.toInt8.toInt32)) (n := cs.length) (n0 := Z.heap.size) hZ hws wi gx ho.1 E V C A (hz1.ext ho) hz2 rfl hN l0 l2 hp rfl hf hl) hg hsize (Steps.refl _) (a := x) (argsL := [.ref b]) (rest := rest) (lenOf (ps := [.array .char]) (r := none) (by decide +kernel) rfl) hs hW hd (fun _ _ => ⟨rfl, eT, hc, Nat.le_trans (Nat.add_le_add_left hnn _) hsl⟩)
  dsimp only [Pt.U, Pt.locs, Pt.cells, Pt.slots] at X' hQ q1 q2 q3 st
  subst q1 q2 q3
  obtain ⟨rfl, N', K', E', C', t, kb, t1, t2, t3, V', A'⟩ := hQ
  have J : Stp Z EL vm h vm U.heap [x] := Stp.of_keep K' (allS sf all0) C0.1
  subst hN
  refine hG.st (fun t q => st.trans q) (K U U.heap t ⟨_, { X' with same := X'.same.mono (Nat.le_refl _) (Nat.add_le_add_left hnn _) }, rfl, hZ, hown, ⟨j, hS, Nat.le_trans hj K'.1⟩, C0.trans J.2, N.app N', O, hn⟩ J t2 ⟨kb, E', V', C', A', hp, l2⟩)
end L2
end Jvm.Pilot.@@N@@.Own


namespace Jvm.Pilot.@@N@@
open Jvm Jvm.ClassFile Sem Op Lib Jvm.Free Jvm.Stand Jvm.LawKit Jvm.RoadKit Bundle Jvm.Pilot.@@N@@.Jvm.D
def own_Wld (Z : State) (a0 : Array Value) : Prop := (∀ d ∈ tables_1, d.before a0 Z = true) ∧ Own.Cmp Z ∧ Own.Sio Z
set_option maxRecDepth 65536 in
theorem own_wbackV : ∀ d ∈ StrChars.Road.words, d ∈ tables_1 := by decide +kernel
set_option maxRecDepth 65536 in
theorem own_wlenW : ∀ d ∈ StrChars.Road.wordsLen, d ∈ tables_1 := by decide +kernel
set_option maxRecDepth 65536 in
theorem own_wchN : ∀ d ∈ StrChars.Road.wordsChN, d ∈ tables_1 := by decide +kernel
set_option maxRecDepth 65536 in
theorem own_wempW : ∀ d ∈ StrChars.Road.wordsEmp, d ∈ tables_1 := by decide +kernel
theorem own_nar {y : Int32} (h0 : 0 ≤ y.toInt) (h1 : y.toInt < 65536) : nar .char y = y := by
  have q := c_i2c y
  have e : (nar .char y).toInt = y.toInt := by
    show y.toUInt32.toUInt16.toUInt32.toInt32.toInt = _
    omega
  exact Int32.toInt_inj.mp e
theorem own_pcr (x : Int32) : ¬ nar .char (((33 : Int32) + ((x &&& (2147483647 : Int32)) % (94 : Int32))).toUInt32.toUInt16.toUInt32.toInt32) < 33 ∧ ¬ (126 : Int32) < nar .char (((33 : Int32) + ((x &&& (2147483647 : Int32)) % (94 : Int32))).toUInt32.toUInt16.toUInt32.toInt32) := by
  obtain ⟨a, ea⟩ : ∃ a, a = x &&& (2147483647 : Int32) := ⟨_, rfl⟩
  have h1 := c_and x 2147483647 (by decide)
  rw [← ea] at h1 ⊢
  have h2 := (c_irem a 94 94 rfl).1 h1.1
  have h3 := c_iadd 33 (a % 94)
  have h4 := rng32 (33 + a % 94)
  have e33 : (33 : Int32).toInt = 33 := rfl
  have e126 : (126 : Int32).toInt = 126 := rfl
  have h5 : ((33 : Int32) + a % 94).toInt = 33 + a.toInt % 94 := by omega
  have e1 : ((33 : Int32) + a % 94).toUInt32.toUInt16.toUInt32.toInt32 = (33 : Int32) + a % 94 := own_nar (by omega) (by omega)
  have e2 : nar .char ((33 : Int32) + a % 94) = (33 : Int32) + a % 94 := own_nar (by omega) (by omega)
  rw [e1, e2, Int32.lt_iff_toInt_lt, Int32.lt_iff_toInt_lt, h5, e33, e126]
  omega
theorem own_rg {c : Int32} (h : ¬ c < 33 ∧ ¬ (126 : Int32) < c) : ¬ c < 0 ∧ ¬ (255 : Int32) < c := by
  have e33 : (33 : Int32).toInt = 33 := rfl
  have e126 : (126 : Int32).toInt = 126 := rfl
  have e0 : (0 : Int32).toInt = 0 := rfl
  have e255 : (255 : Int32).toInt = 255 := rfl
  simp only [Int32.lt_iff_toInt_lt, e33, e126, e0, e255] at h ⊢
  omega
theorem own_rn {c : Int32} (h : ¬ c < 33 ∧ ¬ (126 : Int32) < c) : nar .char c = c := by
  have e33 : (33 : Int32).toInt = 33 := rfl
  have e126 : (126 : Int32).toInt = 126 := rfl
  simp only [Int32.lt_iff_toInt_lt, e33, e126] at h
  exact own_nar (by omega) (by omega)
theorem own_four {n : Int32} (h1 : ¬ (1 : Int32) + (n &&& (3 : Int32)) = 1) (h2 : ¬ (1 : Int32) + (n &&& (3 : Int32)) = 2) (h3 : ¬ (1 : Int32) + (n &&& (3 : Int32)) = 3) : (4 : Int32) = (1 : Int32) + (n &&& (3 : Int32)) := by
  obtain ⟨a, ea⟩ : ∃ a, a = n &&& (3 : Int32) := ⟨_, rfl⟩
  have q := c_and n 3 (by decide)
  rw [← ea] at q h1 h2 h3 ⊢
  have h5 := c_iadd 1 a
  have h4 := rng32 (1 + a)
  have e1 : (1 : Int32).toInt = 1 := rfl
  have e2 : (2 : Int32).toInt = 2 := rfl
  have e3 : (3 : Int32).toInt = 3 := rfl
  have e4 : (4 : Int32).toInt = 4 := rfl
  rw [← Int32.toInt_inj] at h1 h2 h3 ⊢
  omega
theorem own_pn9d07e5 : plainFor (⟨"com/example/latchkey/latchkey/ApiKeyParsePinLaw", "pc", "(I)C"⟩ : MethodName) = true := by first | exact plainFor_of_name (by first | (simp [plainName, overriddenIn]; done) | decide +kernel) | decide +kernel
theorem own_dmethod_2_code_0 : decode method_2_code 0 = .ok (.bipush 33, 2) := by decide +kernel
theorem own_dmethod_2_code_2 : decode method_2_code 2 = .ok (.iload_n 0, 1) := by decide +kernel
theorem own_dmethod_2_code_3 : decode method_2_code 3 = .ok (.ldc 7, 2) := by decide +kernel
theorem own_dmethod_2_code_5 : decode method_2_code 5 = .ok (.iand, 1) := by decide +kernel
theorem own_dmethod_2_code_6 : decode method_2_code 6 = .ok (.bipush 94, 2) := by decide +kernel
theorem own_dmethod_2_code_8 : decode method_2_code 8 = .ok (.irem, 1) := by decide +kernel
theorem own_dmethod_2_code_9 : decode method_2_code 9 = .ok (.iadd, 1) := by decide +kernel
theorem own_dmethod_2_code_10 : decode method_2_code 10 = .ok (.i2c, 1) := by decide +kernel
theorem own_dmethod_2_code_11 : decode method_2_code 11 = .ok (.ireturn, 1) := by decide +kernel
theorem own_ef_own_pc (m : MethodId) (x : Int32) : entryFrame m #[(.int x)] 1 = mkF m 0 #[iv x] [] := by first | (simp [entryFrame, mkF, argsToLocals, Value.category]; done) | rfl
set_option maxRecDepth 65536 in
set_option maxHeartbeats 40000000 in
theorem own_pc (l : Launch) (Z : State) (a0 : Array Value) (H : own_Wld Z a0) {cw : List Jvm.Cond} (x : Int32) (h0 : Heap) (O0 : Ext Z.heap h0) :
    Own.Con l Z ([] : List (String × Nat)) (⟨"com/example/latchkey/latchkey/ApiKeyParsePinLaw", "pc", "(I)C"⟩ : MethodName) method_2_code 1 (some .char) cw ({ frames := 0, cells := 0, slots := 0, locals := 0 } : Room) #[(.int x)] h0 (fun v h => Keep h0 h [] ∧ ∃ c : Int32, v = some (.int c) ∧ ¬ c < 33 ∧ ¬ (126 : Int32) < c) := by
  have hw := H.1
  have hW := fun (i : Nat) (w : Jvm.Cond) (e : tables_1[i]? = some w) => hw w (List.mem_of_getElem? e)
  have hCm := H.2.1
  have hSi := H.2.2
  have hWs : ∀ d ∈ StrChars.Road.words, d.before a0 Z = true := fun d hd => hw d (own_wbackV d hd)
  have hWl : ∀ d ∈ StrChars.Road.wordsLen, d.before a0 Z = true := fun d hd => hw d (own_wlenW d hd)
  have hWc : ∀ d ∈ StrChars.Road.wordsChN, d.before a0 Z = true := fun d hd => hw d (own_wchN d hd)
  have hWm : ∀ d ∈ StrChars.Road.wordsEmp, d.before a0 Z = true := fun d hd => hw d (own_wempW d hd)
  refine Own.Con.of own_pn9d07e5 rfl O0 ?_
  intro p e s m below meth c T0 G vm0 hx hby hml hret hnm hG hR S0
  have hz : ∀ L : Array Slot, L.size = 1 → L.size = c.maxLocals := fun L q => q.trans hml.symm
  rw [own_ef_own_pc]
  show G T0 (mkF m 0 #[iv x] [])
  refine hG.st (fun t q => XS.bipush S0.here hx rfl (hb hby own_dmethod_2_code_0) (XS.iloadN S0.here hx rfl (hb hby own_dmethod_2_code_2) rfl q)) ?_
  show G T0 (mkF m 3 #[iv x] [(.int x), (.int 33)])
  refine Own.Sit.ldcI hG S0 hx (hW 5 _ rfl) rfl (hb hby own_dmethod_2_code_3) ?_
  show G T0 (mkF m 5 #[iv x] [(.int 2147483647), (.int x), (.int 33)])
  refine hG.st (fun t q => XS.iand S0.here hx rfl (hb hby own_dmethod_2_code_5) rfl (XS.bipush S0.here hx rfl (hb hby own_dmethod_2_code_6) (Own.irem S0.here hx rfl (hb hby own_dmethod_2_code_8) rfl (by decide) (XS.iadd S0.here hx rfl (hb hby own_dmethod_2_code_9) rfl (XS.i2c S0.here hx rfl (hb hby own_dmethod_2_code_10) rfl q))))) ?_
  show G T0 (mkF m 11 #[iv x] [(.int (((33 : Int32) + ((x &&& (2147483647 : Int32)) % (94 : Int32))).toUInt32.toUInt16.toUInt32.toInt32))])
  exact Own.Sit.retN hR S0 hx (t := .char) hret (by simp) (hb hby own_dmethod_2_code_11) (by decide) (by decide) ⟨(Keep.refl _ _), _, rfl, own_pcr _⟩
theorem own_pn17b76f : plainFor (⟨"com/example/latchkey/latchkey/ApiKey", "<init>", "(Ljava/lang/String;)V"⟩ : MethodName) = true := by first | exact plainFor_of_name (by first | (simp [plainName, overriddenIn]; done) | decide +kernel) | decide +kernel
theorem own_dprog_1_method_1_code_0 : decode prog_1_method_1_code 0 = .ok (.aload_n 0, 1) := by decide +kernel
theorem own_dprog_1_method_1_code_1 : decode prog_1_method_1_code 1 = .ok (.invokespecial 1, 3) := by decide +kernel
theorem own_dprog_1_method_1_code_4 : decode prog_1_method_1_code 4 = .ok (.aload_n 0, 1) := by decide +kernel
theorem own_dprog_1_method_1_code_5 : decode prog_1_method_1_code 5 = .ok (.aload_n 1, 1) := by decide +kernel
theorem own_dprog_1_method_1_code_6 : decode prog_1_method_1_code 6 = .ok (.putfield 7, 3) := by decide +kernel
theorem own_dprog_1_method_1_code_9 : decode prog_1_method_1_code 9 = .ok (.return_, 1) := by decide +kernel
theorem own_ef_own_init (m : MethodId) (a : Addr) (x : Addr) : entryFrame m #[(.ref a), (.ref x)] 2 = mkF m 0 #[rv a, rv x] [] := by first | (simp [entryFrame, mkF, argsToLocals, Value.category]; done) | rfl
set_option maxRecDepth 65536 in
set_option maxHeartbeats 40000000 in
theorem own_init (l : Launch) (Z : State) (a0 : Array Value) (H : own_Wld Z a0) {cw : List Jvm.Cond} (a : Addr) (x : Addr) (h0 : Heap) (O0 : Ext Z.heap h0) (g_a : Z.heap.size ≤ a) (E_a : Exa Z h0 a "com/example/latchkey/latchkey/ApiKey") (F_v : Fld Z h0 a "com/example/latchkey/latchkey/ApiKey" "value" "Ljava/lang/String;" .null) :
    Own.Con l Z ([] : List (String × Nat)) (⟨"com/example/latchkey/latchkey/ApiKey", "<init>", "(Ljava/lang/String;)V"⟩ : MethodName) prog_1_method_1_code 2 none cw ({ frames := 1, cells := 0, slots := 0, locals := 12 } : Room) #[(.ref a), (.ref x)] h0 (fun v h => Keep h0 h [a] ∧ v = none ∧ Fld Z h a "com/example/latchkey/latchkey/ApiKey" "value" "Ljava/lang/String;" (.ref x)) := by
  have hw := H.1
  have hW := fun (i : Nat) (w : Jvm.Cond) (e : tables_1[i]? = some w) => hw w (List.mem_of_getElem? e)
  have hCm := H.2.1
  have hSi := H.2.2
  have hWs : ∀ d ∈ StrChars.Road.words, d.before a0 Z = true := fun d hd => hw d (own_wbackV d hd)
  have hWl : ∀ d ∈ StrChars.Road.wordsLen, d.before a0 Z = true := fun d hd => hw d (own_wlenW d hd)
  have hWc : ∀ d ∈ StrChars.Road.wordsChN, d.before a0 Z = true := fun d hd => hw d (own_wchN d hd)
  have hWm : ∀ d ∈ StrChars.Road.wordsEmp, d.before a0 Z = true := fun d hd => hw d (own_wempW d hd)
  refine Own.Con.of own_pn17b76f rfl O0 ?_
  intro p e s m below meth c T0 G vm0 hx hby hml hret hnm hG hR S0
  have hz : ∀ L : Array Slot, L.size = 2 → L.size = c.maxLocals := fun L q => q.trans hml.symm
  rw [own_ef_own_init]
  show G T0 (mkF m 0 #[rv a, rv x] [])
  refine hG.st (fun t q => XS.aloadN S0.here hx rfl (hb hby own_dprog_1_method_1_code_0) rfl rfl q) ?_
  show G T0 (mkF m 1 #[rv a, rv x] [(.ref a)])
  refine Own.Sit.initO hG S0 hx (hW 81 _ rfl) (hW 17 _ rfl) (hW 18 _ rfl) rfl (hz _ rfl) rfl (hb hby own_dprog_1_method_1_code_1) (by decide) (W := 0) (by show 2 * 0 + _ ≤ _; exact Nat.le_of_eq rfl) (by decide) (fun T1 S1 => ?_)
  show G T1 (mkF m 4 #[rv a, rv x] [])
  refine hG.st (fun t q => XS.aloadN S1.here hx rfl (hb hby own_dprog_1_method_1_code_4) rfl rfl (XS.aloadN S1.here hx rfl (hb hby own_dprog_1_method_1_code_5) rfl rfl q)) ?_
  show G T1 (mkF m 6 #[rv a, rv x] [(.ref x), (.ref a)])
  refine Own.Sit.putF hG S1 hx (host := "") (Or.inl (hW 82 _ rfl)) Via.refl F_v E_a (Or.inr ⟨(hW 83 _ rfl), rfl, hnm⟩) (hW 77 _ rfl) (ty := (.object "java/lang/String")) (by decide) rfl rfl g_a Own.safe0 rfl rfl (hb hby own_dprog_1_method_1_code_6) (fun T2 h2 S2 J2 W2 F2 => ?_)
  show G T2 (mkF m 9 #[rv a, rv x] [])
  exact Own.Sit.ret0 hR S2 hx hret (hb hby own_dprog_1_method_1_code_9) (by decide) (by decide) ⟨J2.1, rfl, F2⟩
theorem own_pn2ec7d8 : plainFor (⟨"java/lang/String", "equals", "(Ljava/lang/Object;)Z"⟩ : MethodName) = true := by first | exact plainFor_of_name (by first | (simp [plainName, overriddenIn]; done) | decide +kernel) | decide +kernel
theorem own_djdk_42_method_66_code_0 : decode jdk_42_method_66_code 0 = .ok (.aload_n 0, 1) := by decide +kernel
theorem own_djdk_42_method_66_code_1 : decode jdk_42_method_66_code 1 = .ok (.aload_n 1, 1) := by decide +kernel
theorem own_djdk_42_method_66_code_2 : decode jdk_42_method_66_code 2 = .ok (.if_acmp .ne 5, 3) := by decide +kernel
theorem own_djdk_42_method_66_code_5 : decode jdk_42_method_66_code 5 = .ok (.iconst 1, 1) := by decide +kernel
theorem own_djdk_42_method_66_code_6 : decode jdk_42_method_66_code 6 = .ok (.ireturn, 1) := by decide +kernel
theorem own_ef_own_eqself (m : MethodId) (x : Addr) : entryFrame m #[(.ref x), (.ref x)] 3 = mkF m 0 #[rv x, rv x, .unset] [] := by first | (simp [entryFrame, mkF, argsToLocals, Value.category]; done) | rfl
set_option maxRecDepth 65536 in
set_option maxHeartbeats 40000000 in
theorem own_eqself (l : Launch) (Z : State) (a0 : Array Value) (H : own_Wld Z a0) {cw : List Jvm.Cond} (x : Addr) (h0 : Heap) (O0 : Ext Z.heap h0) :
    Own.Con l Z ([] : List (String × Nat)) (⟨"java/lang/String", "equals", "(Ljava/lang/Object;)Z"⟩ : MethodName) jdk_42_method_66_code 3 (some .boolean) cw ({ frames := 0, cells := 0, slots := 0, locals := 0 } : Room) #[(.ref x), (.ref x)] h0 (fun v h => Keep h0 h [] ∧ v = some (.int 1)) := by
  have hw := H.1
  have hW := fun (i : Nat) (w : Jvm.Cond) (e : tables_1[i]? = some w) => hw w (List.mem_of_getElem? e)
  have hCm := H.2.1
  have hSi := H.2.2
  have hWs : ∀ d ∈ StrChars.Road.words, d.before a0 Z = true := fun d hd => hw d (own_wbackV d hd)
  have hWl : ∀ d ∈ StrChars.Road.wordsLen, d.before a0 Z = true := fun d hd => hw d (own_wlenW d hd)
  have hWc : ∀ d ∈ StrChars.Road.wordsChN, d.before a0 Z = true := fun d hd => hw d (own_wchN d hd)
  have hWm : ∀ d ∈ StrChars.Road.wordsEmp, d.before a0 Z = true := fun d hd => hw d (own_wempW d hd)
  refine Own.Con.of own_pn2ec7d8 rfl O0 ?_
  intro p e s m below meth c T0 G vm0 hx hby hml hret hnm hG hR S0
  have hz : ∀ L : Array Slot, L.size = 3 → L.size = c.maxLocals := fun L q => q.trans hml.symm
  rw [own_ef_own_eqself]
  show G T0 (mkF m 0 #[rv x, rv x, .unset] [])
  refine hG.st (fun t q => XS.aloadN S0.here hx rfl (hb hby own_djdk_42_method_66_code_0) rfl rfl (XS.aloadN S0.here hx rfl (hb hby own_djdk_42_method_66_code_1) rfl rfl q)) ?_
  show G T0 (mkF m 2 #[rv x, rv x, .unset] [(.ref x), (.ref x)])
  refine Own.Sit.acmp hG S0 hx (g := (mkF m 2 #[rv x, rv x, .unset] [(.ref x), (.ref x)])) rfl rfl rfl (pc0 := 2) (pc' := 5) (same := true) rfl (hb hby own_djdk_42_method_66_code_2) rfl (decide_eq_true rfl) (by decide) (by decide) ?_
  show G T0 (mkF m 5 #[rv x, rv x, .unset] [])
  refine hG.st (fun t q => XS.iconst S0.here hx rfl (hb hby own_djdk_42_method_66_code_5) q) ?_
  show G T0 (mkF m 6 #[rv x, rv x, .unset] [(.int 1)])
  exact Own.Sit.retN hR S0 hx (t := .boolean) hret (by simp) (hb hby own_djdk_42_method_66_code_6) (by decide) (by decide) ⟨(Keep.refl _ _), rfl⟩
theorem own_pnf13aec : plainFor (⟨"com/example/latchkey/latchkey/ApiKey", "parse", "(Ljava/lang/String;)Lcom/example/latchkey/latchkey/ApiKey;"⟩ : MethodName) = true := by first | exact plainFor_of_name (by first | (simp [plainName, overriddenIn]; done) | decide +kernel) | decide +kernel
theorem own_pdab706b : parseMethodDescriptor "(Ljava/lang/String;)V" = some ⟨[(.object "java/lang/String")], none⟩ := by decide +kernel
theorem own_dprog_1_method_2_code_0 : decode prog_1_method_2_code 0 = .ok (.aload_n 0, 1) := by decide +kernel
theorem own_dprog_1_method_2_code_1 : decode prog_1_method_2_code 1 = .ok (.ifnull 10, 3) := by decide +kernel
theorem own_dprog_1_method_2_code_4 : decode prog_1_method_2_code 4 = .ok (.aload_n 0, 1) := by decide +kernel
theorem own_dprog_1_method_2_code_5 : decode prog_1_method_2_code 5 = .ok (.invokevirtual 13, 3) := by decide +kernel
theorem own_dprog_1_method_2_code_8 : decode prog_1_method_2_code 8 = .ok (.ifCond .eq 13, 3) := by decide +kernel
theorem own_dprog_1_method_2_code_21 : decode prog_1_method_2_code 21 = .ok (.aload_n 0, 1) := by decide +kernel
theorem own_dprog_1_method_2_code_22 : decode prog_1_method_2_code 22 = .ok (.invokevirtual 26, 3) := by decide +kernel
theorem own_dprog_1_method_2_code_25 : decode prog_1_method_2_code 25 = .ok (.sipush 255, 3) := by decide +kernel
theorem own_dprog_1_method_2_code_28 : decode prog_1_method_2_code 28 = .ok (.if_icmp .le 13, 3) := by decide +kernel
theorem own_dprog_1_method_2_code_41 : decode prog_1_method_2_code 41 = .ok (.iconst 0, 1) := by decide +kernel
theorem own_dprog_1_method_2_code_42 : decode prog_1_method_2_code 42 = .ok (.istore_n 1, 1) := by decide +kernel
theorem own_dprog_1_method_2_code_43 : decode prog_1_method_2_code 43 = .ok (.iload_n 1, 1) := by decide +kernel
theorem own_dprog_1_method_2_code_44 : decode prog_1_method_2_code 44 = .ok (.aload_n 0, 1) := by decide +kernel
theorem own_dprog_1_method_2_code_45 : decode prog_1_method_2_code 45 = .ok (.invokevirtual 26, 3) := by decide +kernel
theorem own_dprog_1_method_2_code_48 : decode prog_1_method_2_code 48 = .ok (.if_icmp .ge 43, 3) := by decide +kernel
theorem own_dprog_1_method_2_code_51 : decode prog_1_method_2_code 51 = .ok (.aload_n 0, 1) := by decide +kernel
theorem own_dprog_1_method_2_code_52 : decode prog_1_method_2_code 52 = .ok (.iload_n 1, 1) := by decide +kernel
theorem own_dprog_1_method_2_code_53 : decode prog_1_method_2_code 53 = .ok (.invokevirtual 32, 3) := by decide +kernel
theorem own_dprog_1_method_2_code_56 : decode prog_1_method_2_code 56 = .ok (.istore_n 2, 1) := by decide +kernel
theorem own_dprog_1_method_2_code_57 : decode prog_1_method_2_code 57 = .ok (.iload_n 2, 1) := by decide +kernel
theorem own_dprog_1_method_2_code_58 : decode prog_1_method_2_code 58 = .ok (.bipush 33, 2) := by decide +kernel
theorem own_dprog_1_method_2_code_60 : decode prog_1_method_2_code 60 = .ok (.if_icmp .lt 9, 3) := by decide +kernel
theorem own_dprog_1_method_2_code_63 : decode prog_1_method_2_code 63 = .ok (.iload_n 2, 1) := by decide +kernel
theorem own_dprog_1_method_2_code_64 : decode prog_1_method_2_code 64 = .ok (.bipush 126, 2) := by decide +kernel
theorem own_dprog_1_method_2_code_66 : decode prog_1_method_2_code 66 = .ok (.if_icmp .le 19, 3) := by decide +kernel
theorem own_dprog_1_method_2_code_85 : decode prog_1_method_2_code 85 = .ok (.iinc 1 1, 3) := by decide +kernel
theorem own_dprog_1_method_2_code_88 : decode prog_1_method_2_code 88 = .ok (.goto (-45), 3) := by decide +kernel
theorem own_dprog_1_method_2_code_91 : decode prog_1_method_2_code 91 = .ok (.new 8, 3) := by decide +kernel
theorem own_dprog_1_method_2_code_94 : decode prog_1_method_2_code 94 = .ok (.dup, 1) := by decide +kernel
theorem own_dprog_1_method_2_code_95 : decode prog_1_method_2_code 95 = .ok (.aload_n 0, 1) := by decide +kernel
theorem own_dprog_1_method_2_code_96 : decode prog_1_method_2_code 96 = .ok (.invokespecial 40, 3) := by decide +kernel
theorem own_dprog_1_method_2_code_99 : decode prog_1_method_2_code 99 = .ok (.areturn, 1) := by decide +kernel
theorem own_ef_own_parse1 (m : MethodId) (x : Addr) : entryFrame m #[(.ref x)] 3 = mkF m 0 #[rv x, .unset, .unset] [] := by first | (simp [entryFrame, mkF, argsToLocals, Value.category]; done) | rfl
set_option maxRecDepth 65536 in
set_option maxHeartbeats 40000000 in
theorem own_parse1 (l : Launch) (Z : State) (a0 : Array Value) (H : own_Wld Z a0) {cw : List Jvm.Cond} (x : Addr) (t : Addr) (c0 : Int32) (h0 : Heap) (O0 : Ext Z.heap h0) (St_x : Own.Str Z h0 x t ([c0] : List Int32)) (r_c0 : ¬ c0 < 33 ∧ ¬ (126 : Int32) < c0) :
    Own.Con l Z ([] : List (String × Nat)) (⟨"com/example/latchkey/latchkey/ApiKey", "parse", "(Ljava/lang/String;)Lcom/example/latchkey/latchkey/ApiKey;"⟩ : MethodName) prog_1_method_2_code 3 (some (.object "com/example/latchkey/latchkey/ApiKey")) cw ({ frames := 4, cells := 1, slots := 1, locals := 53 } : Room) #[(.ref x)] h0 (fun v h => Keep h0 h [] ∧ ∃ a, v = some (.ref a) ∧ h0.size ≤ a ∧ Exa Z h a "com/example/latchkey/latchkey/ApiKey" ∧ Fld Z h a "com/example/latchkey/latchkey/ApiKey" "value" "Ljava/lang/String;" (.ref x)) := by
  have hw := H.1
  have hW := fun (i : Nat) (w : Jvm.Cond) (e : tables_1[i]? = some w) => hw w (List.mem_of_getElem? e)
  have hCm := H.2.1
  have hSi := H.2.2
  have hWs : ∀ d ∈ StrChars.Road.words, d.before a0 Z = true := fun d hd => hw d (own_wbackV d hd)
  have hWl : ∀ d ∈ StrChars.Road.wordsLen, d.before a0 Z = true := fun d hd => hw d (own_wlenW d hd)
  have hWc : ∀ d ∈ StrChars.Road.wordsChN, d.before a0 Z = true := fun d hd => hw d (own_wchN d hd)
  have hWm : ∀ d ∈ StrChars.Road.wordsEmp, d.before a0 Z = true := fun d hd => hw d (own_wempW d hd)
  refine Own.Con.of own_pnf13aec rfl O0 ?_
  intro p e s m below meth c T0 G vm0 hx hby hml hret hnm hG hR S0
  have hz : ∀ L : Array Slot, L.size = 3 → L.size = c.maxLocals := fun L q => q.trans hml.symm
  rw [own_ef_own_parse1]
  show G T0 (mkF m 0 #[rv x, .unset, .unset] [])
  refine hG.st (fun t q => XS.aloadN S0.here hx rfl (hb hby own_dprog_1_method_2_code_0) rfl rfl (XS.ifnullNo S0.here hx rfl (hb hby own_dprog_1_method_2_code_1) rfl (XS.aloadN S0.here hx rfl (hb hby own_dprog_1_method_2_code_4) rfl rfl q))) ?_
  show G T0 (mkF m 5 #[rv x, .unset, .unset] [(.ref x)])
  refine Own.Sit.strEmp hG S0 hx hWm (hW 7 _ rfl) (hW 39 _ rfl) (hW 40 _ rfl) (hW 42 _ rfl) (hW 41 _ rfl) St_x rfl (hz _ rfl) (rest := []) rfl (W := 0) (by show 2 * 0 + _ ≤ _; exact Nat.le_of_eq rfl) (hb hby own_dprog_1_method_2_code_5) (by decide) (by decide) (by decide) (by decide) (fun T3 S3 => ?_)
  show G T3 (mkF m 8 #[rv x, .unset, .unset] [(.int 0)])
  refine hG.st (fun t q => XS.ifYes S3.here hx rfl (pc0 := 8) (pc' := 21) rfl (hb hby own_dprog_1_method_2_code_8) rfl ((if0 _ _).trans (teq (by decide : (0 : Int32) = (0 : Int32))).1) (by decide) (by decide) (XS.aloadN S3.here hx rfl (hb hby own_dprog_1_method_2_code_21) rfl rfl q)) ?_
  show G T3 (mkF m 22 #[rv x, .unset, .unset] [(.ref x)])
  refine Own.Sit.strLen hG S3 hx hWl hCm (hW 7 _ rfl) (hW 44 _ rfl) (hW 45 _ rfl) (hW 47 _ rfl) (hW 46 _ rfl) St_x rfl (hz _ rfl) (rest := []) rfl (W := 0) (by show 2 * 0 + _ ≤ _; exact Nat.le_of_eq rfl) (hb hby own_dprog_1_method_2_code_22) (by decide) (by decide) (by decide) (by decide) (fun T4 S4 => ?_)
  show G T4 (mkF m 25 #[rv x, .unset, .unset] [(.int 1)])
  refine hG.st (fun t q => XS.sipush S4.here hx rfl (hb hby own_dprog_1_method_2_code_25) (XS.icmpYes S4.here hx rfl (pc0 := 28) (pc' := 41) rfl (hb hby own_dprog_1_method_2_code_28) rfl (flt (by decide : ¬ ((255 : Int32) < (1 : Int32)))).2.2.2 (by decide) (by decide) (XS.iconst S4.here hx rfl (hb hby own_dprog_1_method_2_code_41) (XS.istoreN S4.here hx rfl (hb hby own_dprog_1_method_2_code_42) rfl (l' := #[rv x, iv 0, .unset]) rfl (XS.iloadN S4.here hx rfl (hb hby own_dprog_1_method_2_code_43) rfl (XS.aloadN S4.here hx rfl (hb hby own_dprog_1_method_2_code_44) rfl rfl q)))))) ?_
  show G T4 (mkF m 45 #[rv x, iv 0, .unset] [(.ref x), (.int 0)])
  refine Own.Sit.strLen hG S4 hx hWl hCm (hW 7 _ rfl) (hW 44 _ rfl) (hW 45 _ rfl) (hW 47 _ rfl) (hW 46 _ rfl) St_x rfl (hz _ rfl) (rest := [(.int 0)]) rfl (W := 1) (by show 2 * 0 + _ ≤ _; exact Nat.le_of_eq rfl) (hb hby own_dprog_1_method_2_code_45) (by decide) (by decide) (by decide) (by decide) (fun T5 S5 => ?_)
  show G T5 (mkF m 48 #[rv x, iv 0, .unset] [(.int 1), (.int 0)])
  refine hG.st (fun t q => XS.icmpNo S5.here hx rfl (hb hby own_dprog_1_method_2_code_48) rfl (tlt (by decide : (0 : Int32) < (1 : Int32))).2.1 (XS.aloadN S5.here hx rfl (hb hby own_dprog_1_method_2_code_51) rfl rfl (XS.iloadN S5.here hx rfl (hb hby own_dprog_1_method_2_code_52) rfl q))) ?_
  show G T5 (mkF m 53 #[rv x, iv 0, .unset] [(.int 0), (.ref x)])
  refine Own.Sit.strChar hG S5 hx hWc hCm hSi (hW 7 _ rfl) (hW 54 _ rfl) (hW 55 _ rfl) (hW 57 _ rfl) (hW 56 _ rfl) St_x (i := 0) (Nat.le_of_ble_eq_true rfl) rfl rfl (hz _ rfl) (rest := []) rfl (W := 0) (by show 2 * 0 + _ ≤ _; exact Nat.le_of_eq rfl) (hb hby own_dprog_1_method_2_code_53) (by decide) (by decide) (by decide) (by decide) (fun T6 S6 => ?_)
  show G T6 (mkF m 56 #[rv x, iv 0, .unset] [(.int c0)])
  refine hG.st (fun t q => XS.istoreN S6.here hx rfl (hb hby own_dprog_1_method_2_code_56) rfl (l' := #[rv x, iv 0, iv c0]) rfl (XS.iloadN S6.here hx rfl (hb hby own_dprog_1_method_2_code_57) rfl (XS.bipush S6.here hx rfl (hb hby own_dprog_1_method_2_code_58) (XS.icmpNo S6.here hx rfl (hb hby own_dprog_1_method_2_code_60) rfl (flt (r_c0.1 : ¬ (c0 < (33 : Int32)))).1 (XS.iloadN S6.here hx rfl (hb hby own_dprog_1_method_2_code_63) rfl (XS.bipush S6.here hx rfl (hb hby own_dprog_1_method_2_code_64) q)))))) ?_
  show G T6 (mkF m 66 #[rv x, iv 0, iv c0] [(.int 126), (.int c0)])
  refine hG.st (fun t q => XS.icmpYes S6.here hx rfl (pc0 := 66) (pc' := 85) rfl (hb hby own_dprog_1_method_2_code_66) rfl (flt (r_c0.2 : ¬ ((126 : Int32) < c0))).2.2.2 (by decide) (by decide) (XS.iinc S6.here hx rfl (hb hby own_dprog_1_method_2_code_85) rfl (l' := #[rv x, iv 1, iv c0]) rfl (XS.goto S6.here hx rfl (pc0 := 88) (pc' := 43) rfl (hb hby own_dprog_1_method_2_code_88) (by decide) (by decide) (XS.iloadN S6.here hx rfl (hb hby own_dprog_1_method_2_code_43) rfl (XS.aloadN S6.here hx rfl (hb hby own_dprog_1_method_2_code_44) rfl rfl q))))) ?_
  show G T6 (mkF m 45 #[rv x, iv 1, iv c0] [(.ref x), (.int 1)])
  refine Own.Sit.strLen hG S6 hx hWl hCm (hW 7 _ rfl) (hW 44 _ rfl) (hW 45 _ rfl) (hW 47 _ rfl) (hW 46 _ rfl) St_x rfl (hz _ rfl) (rest := [(.int 1)]) rfl (W := 1) (by show 2 * 0 + _ ≤ _; exact Nat.le_of_eq rfl) (hb hby own_dprog_1_method_2_code_45) (by decide) (by decide) (by decide) (by decide) (fun T7 S7 => ?_)
  show G T7 (mkF m 48 #[rv x, iv 1, iv c0] [(.int 1), (.int 1)])
  refine hG.st (fun t q => XS.icmpYes S7.here hx rfl (pc0 := 48) (pc' := 91) rfl (hb hby own_dprog_1_method_2_code_48) rfl (flt (by decide : ¬ ((1 : Int32) < (1 : Int32)))).2.1 (by decide) (by decide) q) ?_
  show G T7 (mkF m 91 #[rv x, iv 1, iv c0] [])
  refine Own.Sit.newO hG S7 hx (hW 76 _ rfl) (hW 77 _ rfl) (hW 37 _ rfl) rfl (hb hby own_dprog_1_method_2_code_91) (by decide) (by decide) (fun T8 h8 x8 g_x8 S8 J8 Sf8 E8 D8 => ?_)
  have lt_x8 := E8.lt
  have ga_x8 : Z.heap.size ≤ x8 := Nat.le_trans S7.le (Nat.le_of_eq g_x8.symm)
  have F9 : Fld Z h8 x8 "com/example/latchkey/latchkey/ApiKey" "value" "Ljava/lang/String;" .null := D8 (Or.inr (hW 83 _ rfl)) (ty := (.object "java/lang/String")) (by decide)
  show G T8 (mkF m 94 #[rv x, iv 1, iv c0] [(.ref x8)])
  refine hG.st (fun t q => XS.dup S8.here hx rfl (hb hby own_dprog_1_method_2_code_94) rfl rfl (XS.aloadN S8.here hx rfl (hb hby own_dprog_1_method_2_code_95) rfl rfl q)) ?_
  show G T8 (mkF m 96 #[rv x, iv 1, iv c0] [(.ref x), (.ref x8), (.ref x8)])
  refine Own.Sit.callI hG S8 hx rfl (as := [(.ref x)]) (hW 78 _ rfl) (hW 79 _ rfl) (hW 37 _ rfl) (hW 80 _ rfl) (by decide) (own_init l Z a0 H x8 x h8 S8.old ga_x8 E8 F9) own_pdab706b rfl rfl (hz _ rfl) (rest := [(.ref x8)]) rfl (W := 1) (by show 2 * 0 + _ ≤ _; exact Nat.le_of_eq rfl) (hb hby own_dprog_1_method_2_code_96) (by decide) (by decide) (by decide) (by decide) (ws := [x8]) (fun _ _ q => q.1) (sfS Own.safe0 sf0) (fun v10 vm10 T10 h10 S10 C10 q10 => ?_)
  obtain ⟨K10, rfl, F10⟩ := q10
  have J10 : Own.Stp Z ([] : List (String × Nat)) vm0 h8 vm10 h10 [x8] := ⟨K10, C10⟩
  show G T10 (mkF m 99 #[rv x, iv 1, iv c0] [(.ref x8)])
  have J11 : Own.Stp Z ([] : List (String × Nat)) vm0 h0 vm10 h10 [] := Own.Stp.trans J8 J10 (all0) (allS (Or.inr (Nat.le_of_eq g_x8.symm)) all0)
  have E12 := J10.exa E8
  exact Own.Sit.retO hR S10 hx hret rfl (Or.inr (Or.inr (Or.inr (Or.inr ⟨rfl, rfl, rfl⟩)))) (hb hby own_dprog_1_method_2_code_99) (by decide) (by decide) ⟨J11.1, x8, rfl, (Nat.le_of_eq g_x8.symm), E12, F10⟩
theorem own_ef_own_parse2 (m : MethodId) (x : Addr) : entryFrame m #[(.ref x)] 3 = mkF m 0 #[rv x, .unset, .unset] [] := by first | (simp [entryFrame, mkF, argsToLocals, Value.category]; done) | rfl
set_option maxRecDepth 65536 in
set_option maxHeartbeats 40000000 in
theorem own_parse2 (l : Launch) (Z : State) (a0 : Array Value) (H : own_Wld Z a0) {cw : List Jvm.Cond} (x : Addr) (t : Addr) (c0 : Int32) (c1 : Int32) (h0 : Heap) (O0 : Ext Z.heap h0) (St_x : Own.Str Z h0 x t ([c0, c1] : List Int32)) (r_c0 : ¬ c0 < 33 ∧ ¬ (126 : Int32) < c0) (r_c1 : ¬ c1 < 33 ∧ ¬ (126 : Int32) < c1) :
    Own.Con l Z ([] : List (String × Nat)) (⟨"com/example/latchkey/latchkey/ApiKey", "parse", "(Ljava/lang/String;)Lcom/example/latchkey/latchkey/ApiKey;"⟩ : MethodName) prog_1_method_2_code 3 (some (.object "com/example/latchkey/latchkey/ApiKey")) cw ({ frames := 4, cells := 1, slots := 1, locals := 53 } : Room) #[(.ref x)] h0 (fun v h => Keep h0 h [] ∧ ∃ a, v = some (.ref a) ∧ h0.size ≤ a ∧ Exa Z h a "com/example/latchkey/latchkey/ApiKey" ∧ Fld Z h a "com/example/latchkey/latchkey/ApiKey" "value" "Ljava/lang/String;" (.ref x)) := by
  have hw := H.1
  have hW := fun (i : Nat) (w : Jvm.Cond) (e : tables_1[i]? = some w) => hw w (List.mem_of_getElem? e)
  have hCm := H.2.1
  have hSi := H.2.2
  have hWs : ∀ d ∈ StrChars.Road.words, d.before a0 Z = true := fun d hd => hw d (own_wbackV d hd)
  have hWl : ∀ d ∈ StrChars.Road.wordsLen, d.before a0 Z = true := fun d hd => hw d (own_wlenW d hd)
  have hWc : ∀ d ∈ StrChars.Road.wordsChN, d.before a0 Z = true := fun d hd => hw d (own_wchN d hd)
  have hWm : ∀ d ∈ StrChars.Road.wordsEmp, d.before a0 Z = true := fun d hd => hw d (own_wempW d hd)
  refine Own.Con.of own_pnf13aec rfl O0 ?_
  intro p e s m below meth c T0 G vm0 hx hby hml hret hnm hG hR S0
  have hz : ∀ L : Array Slot, L.size = 3 → L.size = c.maxLocals := fun L q => q.trans hml.symm
  rw [own_ef_own_parse2]
  show G T0 (mkF m 0 #[rv x, .unset, .unset] [])
  refine hG.st (fun t q => XS.aloadN S0.here hx rfl (hb hby own_dprog_1_method_2_code_0) rfl rfl (XS.ifnullNo S0.here hx rfl (hb hby own_dprog_1_method_2_code_1) rfl (XS.aloadN S0.here hx rfl (hb hby own_dprog_1_method_2_code_4) rfl rfl q))) ?_
  show G T0 (mkF m 5 #[rv x, .unset, .unset] [(.ref x)])
  refine Own.Sit.strEmp hG S0 hx hWm (hW 7 _ rfl) (hW 39 _ rfl) (hW 40 _ rfl) (hW 42 _ rfl) (hW 41 _ rfl) St_x rfl (hz _ rfl) (rest := []) rfl (W := 0) (by show 2 * 0 + _ ≤ _; exact Nat.le_of_eq rfl) (hb hby own_dprog_1_method_2_code_5) (by decide) (by decide) (by decide) (by decide) (fun T13 S13 => ?_)
  show G T13 (mkF m 8 #[rv x, .unset, .unset] [(.int 0)])
  refine hG.st (fun t q => XS.ifYes S13.here hx rfl (pc0 := 8) (pc' := 21) rfl (hb hby own_dprog_1_method_2_code_8) rfl ((if0 _ _).trans (teq (by decide : (0 : Int32) = (0 : Int32))).1) (by decide) (by decide) (XS.aloadN S13.here hx rfl (hb hby own_dprog_1_method_2_code_21) rfl rfl q)) ?_
  show G T13 (mkF m 22 #[rv x, .unset, .unset] [(.ref x)])
  refine Own.Sit.strLen hG S13 hx hWl hCm (hW 7 _ rfl) (hW 44 _ rfl) (hW 45 _ rfl) (hW 47 _ rfl) (hW 46 _ rfl) St_x rfl (hz _ rfl) (rest := []) rfl (W := 0) (by show 2 * 0 + _ ≤ _; exact Nat.le_of_eq rfl) (hb hby own_dprog_1_method_2_code_22) (by decide) (by decide) (by decide) (by decide) (fun T14 S14 => ?_)
  show G T14 (mkF m 25 #[rv x, .unset, .unset] [(.int 2)])
  refine hG.st (fun t q => XS.sipush S14.here hx rfl (hb hby own_dprog_1_method_2_code_25) (XS.icmpYes S14.here hx rfl (pc0 := 28) (pc' := 41) rfl (hb hby own_dprog_1_method_2_code_28) rfl (flt (by decide : ¬ ((255 : Int32) < (2 : Int32)))).2.2.2 (by decide) (by decide) (XS.iconst S14.here hx rfl (hb hby own_dprog_1_method_2_code_41) (XS.istoreN S14.here hx rfl (hb hby own_dprog_1_method_2_code_42) rfl (l' := #[rv x, iv 0, .unset]) rfl (XS.iloadN S14.here hx rfl (hb hby own_dprog_1_method_2_code_43) rfl (XS.aloadN S14.here hx rfl (hb hby own_dprog_1_method_2_code_44) rfl rfl q)))))) ?_
  show G T14 (mkF m 45 #[rv x, iv 0, .unset] [(.ref x), (.int 0)])
  refine Own.Sit.strLen hG S14 hx hWl hCm (hW 7 _ rfl) (hW 44 _ rfl) (hW 45 _ rfl) (hW 47 _ rfl) (hW 46 _ rfl) St_x rfl (hz _ rfl) (rest := [(.int 0)]) rfl (W := 1) (by show 2 * 0 + _ ≤ _; exact Nat.le_of_eq rfl) (hb hby own_dprog_1_method_2_code_45) (by decide) (by decide) (by decide) (by decide) (fun T15 S15 => ?_)
  show G T15 (mkF m 48 #[rv x, iv 0, .unset] [(.int 2), (.int 0)])
  refine hG.st (fun t q => XS.icmpNo S15.here hx rfl (hb hby own_dprog_1_method_2_code_48) rfl (tlt (by decide : (0 : Int32) < (2 : Int32))).2.1 (XS.aloadN S15.here hx rfl (hb hby own_dprog_1_method_2_code_51) rfl rfl (XS.iloadN S15.here hx rfl (hb hby own_dprog_1_method_2_code_52) rfl q))) ?_
  show G T15 (mkF m 53 #[rv x, iv 0, .unset] [(.int 0), (.ref x)])
  refine Own.Sit.strChar hG S15 hx hWc hCm hSi (hW 7 _ rfl) (hW 54 _ rfl) (hW 55 _ rfl) (hW 57 _ rfl) (hW 56 _ rfl) St_x (i := 0) (Nat.le_of_ble_eq_true rfl) rfl rfl (hz _ rfl) (rest := []) rfl (W := 0) (by show 2 * 0 + _ ≤ _; exact Nat.le_of_eq rfl) (hb hby own_dprog_1_method_2_code_53) (by decide) (by decide) (by decide) (by decide) (fun T16 S16 => ?_)
  show G T16 (mkF m 56 #[rv x, iv 0, .unset] [(.int c0)])
  refine hG.st (fun t q => XS.istoreN S16.here hx rfl (hb hby own_dprog_1_method_2_code_56) rfl (l' := #[rv x, iv 0, iv c0]) rfl (XS.iloadN S16.here hx rfl (hb hby own_dprog_1_method_2_code_57) rfl (XS.bipush S16.here hx rfl (hb hby own_dprog_1_method_2_code_58) (XS.icmpNo S16.here hx rfl (hb hby own_dprog_1_method_2_code_60) rfl (flt (r_c0.1 : ¬ (c0 < (33 : Int32)))).1 (XS.iloadN S16.here hx rfl (hb hby own_dprog_1_method_2_code_63) rfl (XS.bipush S16.here hx rfl (hb hby own_dprog_1_method_2_code_64) q)))))) ?_
  show G T16 (mkF m 66 #[rv x, iv 0, iv c0] [(.int 126), (.int c0)])
  refine hG.st (fun t q => XS.icmpYes S16.here hx rfl (pc0 := 66) (pc' := 85) rfl (hb hby own_dprog_1_method_2_code_66) rfl (flt (r_c0.2 : ¬ ((126 : Int32) < c0))).2.2.2 (by decide) (by decide) (XS.iinc S16.here hx rfl (hb hby own_dprog_1_method_2_code_85) rfl (l' := #[rv x, iv 1, iv c0]) rfl (XS.goto S16.here hx rfl (pc0 := 88) (pc' := 43) rfl (hb hby own_dprog_1_method_2_code_88) (by decide) (by decide) (XS.iloadN S16.here hx rfl (hb hby own_dprog_1_method_2_code_43) rfl (XS.aloadN S16.here hx rfl (hb hby own_dprog_1_method_2_code_44) rfl rfl q))))) ?_
  show G T16 (mkF m 45 #[rv x, iv 1, iv c0] [(.ref x), (.int 1)])
  refine Own.Sit.strLen hG S16 hx hWl hCm (hW 7 _ rfl) (hW 44 _ rfl) (hW 45 _ rfl) (hW 47 _ rfl) (hW 46 _ rfl) St_x rfl (hz _ rfl) (rest := [(.int 1)]) rfl (W := 1) (by show 2 * 0 + _ ≤ _; exact Nat.le_of_eq rfl) (hb hby own_dprog_1_method_2_code_45) (by decide) (by decide) (by decide) (by decide) (fun T17 S17 => ?_)
  show G T17 (mkF m 48 #[rv x, iv 1, iv c0] [(.int 2), (.int 1)])
  refine hG.st (fun t q => XS.icmpNo S17.here hx rfl (hb hby own_dprog_1_method_2_code_48) rfl (tlt (by decide : (1 : Int32) < (2 : Int32))).2.1 (XS.aloadN S17.here hx rfl (hb hby own_dprog_1_method_2_code_51) rfl rfl (XS.iloadN S17.here hx rfl (hb hby own_dprog_1_method_2_code_52) rfl q))) ?_
  show G T17 (mkF m 53 #[rv x, iv 1, iv c0] [(.int 1), (.ref x)])
  refine Own.Sit.strChar hG S17 hx hWc hCm hSi (hW 7 _ rfl) (hW 54 _ rfl) (hW 55 _ rfl) (hW 57 _ rfl) (hW 56 _ rfl) St_x (i := 1) (Nat.le_of_ble_eq_true rfl) rfl rfl (hz _ rfl) (rest := []) rfl (W := 0) (by show 2 * 0 + _ ≤ _; exact Nat.le_of_eq rfl) (hb hby own_dprog_1_method_2_code_53) (by decide) (by decide) (by decide) (by decide) (fun T18 S18 => ?_)
  show G T18 (mkF m 56 #[rv x, iv 1, iv c0] [(.int c1)])
  refine hG.st (fun t q => XS.istoreN S18.here hx rfl (hb hby own_dprog_1_method_2_code_56) rfl (l' := #[rv x, iv 1, iv c1]) rfl (XS.iloadN S18.here hx rfl (hb hby own_dprog_1_method_2_code_57) rfl (XS.bipush S18.here hx rfl (hb hby own_dprog_1_method_2_code_58) (XS.icmpNo S18.here hx rfl (hb hby own_dprog_1_method_2_code_60) rfl (flt (r_c1.1 : ¬ (c1 < (33 : Int32)))).1 (XS.iloadN S18.here hx rfl (hb hby own_dprog_1_method_2_code_63) rfl (XS.bipush S18.here hx rfl (hb hby own_dprog_1_method_2_code_64) q)))))) ?_
  show G T18 (mkF m 66 #[rv x, iv 1, iv c1] [(.int 126), (.int c1)])
  refine hG.st (fun t q => XS.icmpYes S18.here hx rfl (pc0 := 66) (pc' := 85) rfl (hb hby own_dprog_1_method_2_code_66) rfl (flt (r_c1.2 : ¬ ((126 : Int32) < c1))).2.2.2 (by decide) (by decide) (XS.iinc S18.here hx rfl (hb hby own_dprog_1_method_2_code_85) rfl (l' := #[rv x, iv 2, iv c1]) rfl (XS.goto S18.here hx rfl (pc0 := 88) (pc' := 43) rfl (hb hby own_dprog_1_method_2_code_88) (by decide) (by decide) (XS.iloadN S18.here hx rfl (hb hby own_dprog_1_method_2_code_43) rfl (XS.aloadN S18.here hx rfl (hb hby own_dprog_1_method_2_code_44) rfl rfl q))))) ?_
  show G T18 (mkF m 45 #[rv x, iv 2, iv c1] [(.ref x), (.int 2)])
  refine Own.Sit.strLen hG S18 hx hWl hCm (hW 7 _ rfl) (hW 44 _ rfl) (hW 45 _ rfl) (hW 47 _ rfl) (hW 46 _ rfl) St_x rfl (hz _ rfl) (rest := [(.int 2)]) rfl (W := 1) (by show 2 * 0 + _ ≤ _; exact Nat.le_of_eq rfl) (hb hby own_dprog_1_method_2_code_45) (by decide) (by decide) (by decide) (by decide) (fun T19 S19 => ?_)
  show G T19 (mkF m 48 #[rv x, iv 2, iv c1] [(.int 2), (.int 2)])
  refine hG.st (fun t q => XS.icmpYes S19.here hx rfl (pc0 := 48) (pc' := 91) rfl (hb hby own_dprog_1_method_2_code_48) rfl (flt (by decide : ¬ ((2 : Int32) < (2 : Int32)))).2.1 (by decide) (by decide) q) ?_
  show G T19 (mkF m 91 #[rv x, iv 2, iv c1] [])
  refine Own.Sit.newO hG S19 hx (hW 76 _ rfl) (hW 77 _ rfl) (hW 37 _ rfl) rfl (hb hby own_dprog_1_method_2_code_91) (by decide) (by decide) (fun T20 h20 x20 g_x20 S20 J20 Sf20 E20 D20 => ?_)
  have lt_x20 := E20.lt
  have ga_x20 : Z.heap.size ≤ x20 := Nat.le_trans S19.le (Nat.le_of_eq g_x20.symm)
  have F21 : Fld Z h20 x20 "com/example/latchkey/latchkey/ApiKey" "value" "Ljava/lang/String;" .null := D20 (Or.inr (hW 83 _ rfl)) (ty := (.object "java/lang/String")) (by decide)
  show G T20 (mkF m 94 #[rv x, iv 2, iv c1] [(.ref x20)])
  refine hG.st (fun t q => XS.dup S20.here hx rfl (hb hby own_dprog_1_method_2_code_94) rfl rfl (XS.aloadN S20.here hx rfl (hb hby own_dprog_1_method_2_code_95) rfl rfl q)) ?_
  show G T20 (mkF m 96 #[rv x, iv 2, iv c1] [(.ref x), (.ref x20), (.ref x20)])
  refine Own.Sit.callI hG S20 hx rfl (as := [(.ref x)]) (hW 78 _ rfl) (hW 79 _ rfl) (hW 37 _ rfl) (hW 80 _ rfl) (by decide) (own_init l Z a0 H x20 x h20 S20.old ga_x20 E20 F21) own_pdab706b rfl rfl (hz _ rfl) (rest := [(.ref x20)]) rfl (W := 1) (by show 2 * 0 + _ ≤ _; exact Nat.le_of_eq rfl) (hb hby own_dprog_1_method_2_code_96) (by decide) (by decide) (by decide) (by decide) (ws := [x20]) (fun _ _ q => q.1) (sfS Own.safe0 sf0) (fun v22 vm22 T22 h22 S22 C22 q22 => ?_)
  obtain ⟨K22, rfl, F22⟩ := q22
  have J22 : Own.Stp Z ([] : List (String × Nat)) vm0 h20 vm22 h22 [x20] := ⟨K22, C22⟩
  show G T22 (mkF m 99 #[rv x, iv 2, iv c1] [(.ref x20)])
  have J23 : Own.Stp Z ([] : List (String × Nat)) vm0 h0 vm22 h22 [] := Own.Stp.trans J20 J22 (all0) (allS (Or.inr (Nat.le_of_eq g_x20.symm)) all0)
  have E24 := J22.exa E20
  exact Own.Sit.retO hR S22 hx hret rfl (Or.inr (Or.inr (Or.inr (Or.inr ⟨rfl, rfl, rfl⟩)))) (hb hby own_dprog_1_method_2_code_99) (by decide) (by decide) ⟨J23.1, x20, rfl, (Nat.le_of_eq g_x20.symm), E24, F22⟩
theorem own_ef_own_parse3 (m : MethodId) (x : Addr) : entryFrame m #[(.ref x)] 3 = mkF m 0 #[rv x, .unset, .unset] [] := by first | (simp [entryFrame, mkF, argsToLocals, Value.category]; done) | rfl
set_option maxRecDepth 65536 in
set_option maxHeartbeats 40000000 in
theorem own_parse3 (l : Launch) (Z : State) (a0 : Array Value) (H : own_Wld Z a0) {cw : List Jvm.Cond} (x : Addr) (t : Addr) (c0 : Int32) (c1 : Int32) (c2 : Int32) (h0 : Heap) (O0 : Ext Z.heap h0) (St_x : Own.Str Z h0 x t ([c0, c1, c2] : List Int32)) (r_c0 : ¬ c0 < 33 ∧ ¬ (126 : Int32) < c0) (r_c1 : ¬ c1 < 33 ∧ ¬ (126 : Int32) < c1) (r_c2 : ¬ c2 < 33 ∧ ¬ (126 : Int32) < c2) :
    Own.Con l Z ([] : List (String × Nat)) (⟨"com/example/latchkey/latchkey/ApiKey", "parse", "(Ljava/lang/String;)Lcom/example/latchkey/latchkey/ApiKey;"⟩ : MethodName) prog_1_method_2_code 3 (some (.object "com/example/latchkey/latchkey/ApiKey")) cw ({ frames := 4, cells := 1, slots := 1, locals := 53 } : Room) #[(.ref x)] h0 (fun v h => Keep h0 h [] ∧ ∃ a, v = some (.ref a) ∧ h0.size ≤ a ∧ Exa Z h a "com/example/latchkey/latchkey/ApiKey" ∧ Fld Z h a "com/example/latchkey/latchkey/ApiKey" "value" "Ljava/lang/String;" (.ref x)) := by
  have hw := H.1
  have hW := fun (i : Nat) (w : Jvm.Cond) (e : tables_1[i]? = some w) => hw w (List.mem_of_getElem? e)
  have hCm := H.2.1
  have hSi := H.2.2
  have hWs : ∀ d ∈ StrChars.Road.words, d.before a0 Z = true := fun d hd => hw d (own_wbackV d hd)
  have hWl : ∀ d ∈ StrChars.Road.wordsLen, d.before a0 Z = true := fun d hd => hw d (own_wlenW d hd)
  have hWc : ∀ d ∈ StrChars.Road.wordsChN, d.before a0 Z = true := fun d hd => hw d (own_wchN d hd)
  have hWm : ∀ d ∈ StrChars.Road.wordsEmp, d.before a0 Z = true := fun d hd => hw d (own_wempW d hd)
  refine Own.Con.of own_pnf13aec rfl O0 ?_
  intro p e s m below meth c T0 G vm0 hx hby hml hret hnm hG hR S0
  have hz : ∀ L : Array Slot, L.size = 3 → L.size = c.maxLocals := fun L q => q.trans hml.symm
  rw [own_ef_own_parse3]
  show G T0 (mkF m 0 #[rv x, .unset, .unset] [])
  refine hG.st (fun t q => XS.aloadN S0.here hx rfl (hb hby own_dprog_1_method_2_code_0) rfl rfl (XS.ifnullNo S0.here hx rfl (hb hby own_dprog_1_method_2_code_1) rfl (XS.aloadN S0.here hx rfl (hb hby own_dprog_1_method_2_code_4) rfl rfl q))) ?_
  show G T0 (mkF m 5 #[rv x, .unset, .unset] [(.ref x)])
  refine Own.Sit.strEmp hG S0 hx hWm (hW 7 _ rfl) (hW 39 _ rfl) (hW 40 _ rfl) (hW 42 _ rfl) (hW 41 _ rfl) St_x rfl (hz _ rfl) (rest := []) rfl (W := 0) (by show 2 * 0 + _ ≤ _; exact Nat.le_of_eq rfl) (hb hby own_dprog_1_method_2_code_5) (by decide) (by decide) (by decide) (by decide) (fun T25 S25 => ?_)
  show G T25 (mkF m 8 #[rv x, .unset, .unset] [(.int 0)])
  refine hG.st (fun t q => XS.ifYes S25.here hx rfl (pc0 := 8) (pc' := 21) rfl (hb hby own_dprog_1_method_2_code_8) rfl ((if0 _ _).trans (teq (by decide : (0 : Int32) = (0 : Int32))).1) (by decide) (by decide) (XS.aloadN S25.here hx rfl (hb hby own_dprog_1_method_2_code_21) rfl rfl q)) ?_
  show G T25 (mkF m 22 #[rv x, .unset, .unset] [(.ref x)])
  refine Own.Sit.strLen hG S25 hx hWl hCm (hW 7 _ rfl) (hW 44 _ rfl) (hW 45 _ rfl) (hW 47 _ rfl) (hW 46 _ rfl) St_x rfl (hz _ rfl) (rest := []) rfl (W := 0) (by show 2 * 0 + _ ≤ _; exact Nat.le_of_eq rfl) (hb hby own_dprog_1_method_2_code_22) (by decide) (by decide) (by decide) (by decide) (fun T26 S26 => ?_)
  show G T26 (mkF m 25 #[rv x, .unset, .unset] [(.int 3)])
  refine hG.st (fun t q => XS.sipush S26.here hx rfl (hb hby own_dprog_1_method_2_code_25) (XS.icmpYes S26.here hx rfl (pc0 := 28) (pc' := 41) rfl (hb hby own_dprog_1_method_2_code_28) rfl (flt (by decide : ¬ ((255 : Int32) < (3 : Int32)))).2.2.2 (by decide) (by decide) (XS.iconst S26.here hx rfl (hb hby own_dprog_1_method_2_code_41) (XS.istoreN S26.here hx rfl (hb hby own_dprog_1_method_2_code_42) rfl (l' := #[rv x, iv 0, .unset]) rfl (XS.iloadN S26.here hx rfl (hb hby own_dprog_1_method_2_code_43) rfl (XS.aloadN S26.here hx rfl (hb hby own_dprog_1_method_2_code_44) rfl rfl q)))))) ?_
  show G T26 (mkF m 45 #[rv x, iv 0, .unset] [(.ref x), (.int 0)])
  refine Own.Sit.strLen hG S26 hx hWl hCm (hW 7 _ rfl) (hW 44 _ rfl) (hW 45 _ rfl) (hW 47 _ rfl) (hW 46 _ rfl) St_x rfl (hz _ rfl) (rest := [(.int 0)]) rfl (W := 1) (by show 2 * 0 + _ ≤ _; exact Nat.le_of_eq rfl) (hb hby own_dprog_1_method_2_code_45) (by decide) (by decide) (by decide) (by decide) (fun T27 S27 => ?_)
  show G T27 (mkF m 48 #[rv x, iv 0, .unset] [(.int 3), (.int 0)])
  refine hG.st (fun t q => XS.icmpNo S27.here hx rfl (hb hby own_dprog_1_method_2_code_48) rfl (tlt (by decide : (0 : Int32) < (3 : Int32))).2.1 (XS.aloadN S27.here hx rfl (hb hby own_dprog_1_method_2_code_51) rfl rfl (XS.iloadN S27.here hx rfl (hb hby own_dprog_1_method_2_code_52) rfl q))) ?_
  show G T27 (mkF m 53 #[rv x, iv 0, .unset] [(.int 0), (.ref x)])
  refine Own.Sit.strChar hG S27 hx hWc hCm hSi (hW 7 _ rfl) (hW 54 _ rfl) (hW 55 _ rfl) (hW 57 _ rfl) (hW 56 _ rfl) St_x (i := 0) (Nat.le_of_ble_eq_true rfl) rfl rfl (hz _ rfl) (rest := []) rfl (W := 0) (by show 2 * 0 + _ ≤ _; exact Nat.le_of_eq rfl) (hb hby own_dprog_1_method_2_code_53) (by decide) (by decide) (by decide) (by decide) (fun T28 S28 => ?_)
  show G T28 (mkF m 56 #[rv x, iv 0, .unset] [(.int c0)])
  refine hG.st (fun t q => XS.istoreN S28.here hx rfl (hb hby own_dprog_1_method_2_code_56) rfl (l' := #[rv x, iv 0, iv c0]) rfl (XS.iloadN S28.here hx rfl (hb hby own_dprog_1_method_2_code_57) rfl (XS.bipush S28.here hx rfl (hb hby own_dprog_1_method_2_code_58) (XS.icmpNo S28.here hx rfl (hb hby own_dprog_1_method_2_code_60) rfl (flt (r_c0.1 : ¬ (c0 < (33 : Int32)))).1 (XS.iloadN S28.here hx rfl (hb hby own_dprog_1_method_2_code_63) rfl (XS.bipush S28.here hx rfl (hb hby own_dprog_1_method_2_code_64) q)))))) ?_
  show G T28 (mkF m 66 #[rv x, iv 0, iv c0] [(.int 126), (.int c0)])
  refine hG.st (fun t q => XS.icmpYes S28.here hx rfl (pc0 := 66) (pc' := 85) rfl (hb hby own_dprog_1_method_2_code_66) rfl (flt (r_c0.2 : ¬ ((126 : Int32) < c0))).2.2.2 (by decide) (by decide) (XS.iinc S28.here hx rfl (hb hby own_dprog_1_method_2_code_85) rfl (l' := #[rv x, iv 1, iv c0]) rfl (XS.goto S28.here hx rfl (pc0 := 88) (pc' := 43) rfl (hb hby own_dprog_1_method_2_code_88) (by decide) (by decide) (XS.iloadN S28.here hx rfl (hb hby own_dprog_1_method_2_code_43) rfl (XS.aloadN S28.here hx rfl (hb hby own_dprog_1_method_2_code_44) rfl rfl q))))) ?_
  show G T28 (mkF m 45 #[rv x, iv 1, iv c0] [(.ref x), (.int 1)])
  refine Own.Sit.strLen hG S28 hx hWl hCm (hW 7 _ rfl) (hW 44 _ rfl) (hW 45 _ rfl) (hW 47 _ rfl) (hW 46 _ rfl) St_x rfl (hz _ rfl) (rest := [(.int 1)]) rfl (W := 1) (by show 2 * 0 + _ ≤ _; exact Nat.le_of_eq rfl) (hb hby own_dprog_1_method_2_code_45) (by decide) (by decide) (by decide) (by decide) (fun T29 S29 => ?_)
  show G T29 (mkF m 48 #[rv x, iv 1, iv c0] [(.int 3), (.int 1)])
  refine hG.st (fun t q => XS.icmpNo S29.here hx rfl (hb hby own_dprog_1_method_2_code_48) rfl (tlt (by decide : (1 : Int32) < (3 : Int32))).2.1 (XS.aloadN S29.here hx rfl (hb hby own_dprog_1_method_2_code_51) rfl rfl (XS.iloadN S29.here hx rfl (hb hby own_dprog_1_method_2_code_52) rfl q))) ?_
  show G T29 (mkF m 53 #[rv x, iv 1, iv c0] [(.int 1), (.ref x)])
  refine Own.Sit.strChar hG S29 hx hWc hCm hSi (hW 7 _ rfl) (hW 54 _ rfl) (hW 55 _ rfl) (hW 57 _ rfl) (hW 56 _ rfl) St_x (i := 1) (Nat.le_of_ble_eq_true rfl) rfl rfl (hz _ rfl) (rest := []) rfl (W := 0) (by show 2 * 0 + _ ≤ _; exact Nat.le_of_eq rfl) (hb hby own_dprog_1_method_2_code_53) (by decide) (by decide) (by decide) (by decide) (fun T30 S30 => ?_)
  show G T30 (mkF m 56 #[rv x, iv 1, iv c0] [(.int c1)])
  refine hG.st (fun t q => XS.istoreN S30.here hx rfl (hb hby own_dprog_1_method_2_code_56) rfl (l' := #[rv x, iv 1, iv c1]) rfl (XS.iloadN S30.here hx rfl (hb hby own_dprog_1_method_2_code_57) rfl (XS.bipush S30.here hx rfl (hb hby own_dprog_1_method_2_code_58) (XS.icmpNo S30.here hx rfl (hb hby own_dprog_1_method_2_code_60) rfl (flt (r_c1.1 : ¬ (c1 < (33 : Int32)))).1 (XS.iloadN S30.here hx rfl (hb hby own_dprog_1_method_2_code_63) rfl (XS.bipush S30.here hx rfl (hb hby own_dprog_1_method_2_code_64) q)))))) ?_
  show G T30 (mkF m 66 #[rv x, iv 1, iv c1] [(.int 126), (.int c1)])
  refine hG.st (fun t q => XS.icmpYes S30.here hx rfl (pc0 := 66) (pc' := 85) rfl (hb hby own_dprog_1_method_2_code_66) rfl (flt (r_c1.2 : ¬ ((126 : Int32) < c1))).2.2.2 (by decide) (by decide) (XS.iinc S30.here hx rfl (hb hby own_dprog_1_method_2_code_85) rfl (l' := #[rv x, iv 2, iv c1]) rfl (XS.goto S30.here hx rfl (pc0 := 88) (pc' := 43) rfl (hb hby own_dprog_1_method_2_code_88) (by decide) (by decide) (XS.iloadN S30.here hx rfl (hb hby own_dprog_1_method_2_code_43) rfl (XS.aloadN S30.here hx rfl (hb hby own_dprog_1_method_2_code_44) rfl rfl q))))) ?_
  show G T30 (mkF m 45 #[rv x, iv 2, iv c1] [(.ref x), (.int 2)])
  refine Own.Sit.strLen hG S30 hx hWl hCm (hW 7 _ rfl) (hW 44 _ rfl) (hW 45 _ rfl) (hW 47 _ rfl) (hW 46 _ rfl) St_x rfl (hz _ rfl) (rest := [(.int 2)]) rfl (W := 1) (by show 2 * 0 + _ ≤ _; exact Nat.le_of_eq rfl) (hb hby own_dprog_1_method_2_code_45) (by decide) (by decide) (by decide) (by decide) (fun T31 S31 => ?_)
  show G T31 (mkF m 48 #[rv x, iv 2, iv c1] [(.int 3), (.int 2)])
  refine hG.st (fun t q => XS.icmpNo S31.here hx rfl (hb hby own_dprog_1_method_2_code_48) rfl (tlt (by decide : (2 : Int32) < (3 : Int32))).2.1 (XS.aloadN S31.here hx rfl (hb hby own_dprog_1_method_2_code_51) rfl rfl (XS.iloadN S31.here hx rfl (hb hby own_dprog_1_method_2_code_52) rfl q))) ?_
  show G T31 (mkF m 53 #[rv x, iv 2, iv c1] [(.int 2), (.ref x)])
  refine Own.Sit.strChar hG S31 hx hWc hCm hSi (hW 7 _ rfl) (hW 54 _ rfl) (hW 55 _ rfl) (hW 57 _ rfl) (hW 56 _ rfl) St_x (i := 2) (Nat.le_of_ble_eq_true rfl) rfl rfl (hz _ rfl) (rest := []) rfl (W := 0) (by show 2 * 0 + _ ≤ _; exact Nat.le_of_eq rfl) (hb hby own_dprog_1_method_2_code_53) (by decide) (by decide) (by decide) (by decide) (fun T32 S32 => ?_)
  show G T32 (mkF m 56 #[rv x, iv 2, iv c1] [(.int c2)])
  refine hG.st (fun t q => XS.istoreN S32.here hx rfl (hb hby own_dprog_1_method_2_code_56) rfl (l' := #[rv x, iv 2, iv c2]) rfl (XS.iloadN S32.here hx rfl (hb hby own_dprog_1_method_2_code_57) rfl (XS.bipush S32.here hx rfl (hb hby own_dprog_1_method_2_code_58) (XS.icmpNo S32.here hx rfl (hb hby own_dprog_1_method_2_code_60) rfl (flt (r_c2.1 : ¬ (c2 < (33 : Int32)))).1 (XS.iloadN S32.here hx rfl (hb hby own_dprog_1_method_2_code_63) rfl (XS.bipush S32.here hx rfl (hb hby own_dprog_1_method_2_code_64) q)))))) ?_
  show G T32 (mkF m 66 #[rv x, iv 2, iv c2] [(.int 126), (.int c2)])
  refine hG.st (fun t q => XS.icmpYes S32.here hx rfl (pc0 := 66) (pc' := 85) rfl (hb hby own_dprog_1_method_2_code_66) rfl (flt (r_c2.2 : ¬ ((126 : Int32) < c2))).2.2.2 (by decide) (by decide) (XS.iinc S32.here hx rfl (hb hby own_dprog_1_method_2_code_85) rfl (l' := #[rv x, iv 3, iv c2]) rfl (XS.goto S32.here hx rfl (pc0 := 88) (pc' := 43) rfl (hb hby own_dprog_1_method_2_code_88) (by decide) (by decide) (XS.iloadN S32.here hx rfl (hb hby own_dprog_1_method_2_code_43) rfl (XS.aloadN S32.here hx rfl (hb hby own_dprog_1_method_2_code_44) rfl rfl q))))) ?_
  show G T32 (mkF m 45 #[rv x, iv 3, iv c2] [(.ref x), (.int 3)])
  refine Own.Sit.strLen hG S32 hx hWl hCm (hW 7 _ rfl) (hW 44 _ rfl) (hW 45 _ rfl) (hW 47 _ rfl) (hW 46 _ rfl) St_x rfl (hz _ rfl) (rest := [(.int 3)]) rfl (W := 1) (by show 2 * 0 + _ ≤ _; exact Nat.le_of_eq rfl) (hb hby own_dprog_1_method_2_code_45) (by decide) (by decide) (by decide) (by decide) (fun T33 S33 => ?_)
  show G T33 (mkF m 48 #[rv x, iv 3, iv c2] [(.int 3), (.int 3)])
  refine hG.st (fun t q => XS.icmpYes S33.here hx rfl (pc0 := 48) (pc' := 91) rfl (hb hby own_dprog_1_method_2_code_48) rfl (flt (by decide : ¬ ((3 : Int32) < (3 : Int32)))).2.1 (by decide) (by decide) q) ?_
  show G T33 (mkF m 91 #[rv x, iv 3, iv c2] [])
  refine Own.Sit.newO hG S33 hx (hW 76 _ rfl) (hW 77 _ rfl) (hW 37 _ rfl) rfl (hb hby own_dprog_1_method_2_code_91) (by decide) (by decide) (fun T34 h34 x34 g_x34 S34 J34 Sf34 E34 D34 => ?_)
  have lt_x34 := E34.lt
  have ga_x34 : Z.heap.size ≤ x34 := Nat.le_trans S33.le (Nat.le_of_eq g_x34.symm)
  have F35 : Fld Z h34 x34 "com/example/latchkey/latchkey/ApiKey" "value" "Ljava/lang/String;" .null := D34 (Or.inr (hW 83 _ rfl)) (ty := (.object "java/lang/String")) (by decide)
  show G T34 (mkF m 94 #[rv x, iv 3, iv c2] [(.ref x34)])
  refine hG.st (fun t q => XS.dup S34.here hx rfl (hb hby own_dprog_1_method_2_code_94) rfl rfl (XS.aloadN S34.here hx rfl (hb hby own_dprog_1_method_2_code_95) rfl rfl q)) ?_
  show G T34 (mkF m 96 #[rv x, iv 3, iv c2] [(.ref x), (.ref x34), (.ref x34)])
  refine Own.Sit.callI hG S34 hx rfl (as := [(.ref x)]) (hW 78 _ rfl) (hW 79 _ rfl) (hW 37 _ rfl) (hW 80 _ rfl) (by decide) (own_init l Z a0 H x34 x h34 S34.old ga_x34 E34 F35) own_pdab706b rfl rfl (hz _ rfl) (rest := [(.ref x34)]) rfl (W := 1) (by show 2 * 0 + _ ≤ _; exact Nat.le_of_eq rfl) (hb hby own_dprog_1_method_2_code_96) (by decide) (by decide) (by decide) (by decide) (ws := [x34]) (fun _ _ q => q.1) (sfS Own.safe0 sf0) (fun v36 vm36 T36 h36 S36 C36 q36 => ?_)
  obtain ⟨K36, rfl, F36⟩ := q36
  have J36 : Own.Stp Z ([] : List (String × Nat)) vm0 h34 vm36 h36 [x34] := ⟨K36, C36⟩
  show G T36 (mkF m 99 #[rv x, iv 3, iv c2] [(.ref x34)])
  have J37 : Own.Stp Z ([] : List (String × Nat)) vm0 h0 vm36 h36 [] := Own.Stp.trans J34 J36 (all0) (allS (Or.inr (Nat.le_of_eq g_x34.symm)) all0)
  have E38 := J36.exa E34
  exact Own.Sit.retO hR S36 hx hret rfl (Or.inr (Or.inr (Or.inr (Or.inr ⟨rfl, rfl, rfl⟩)))) (hb hby own_dprog_1_method_2_code_99) (by decide) (by decide) ⟨J37.1, x34, rfl, (Nat.le_of_eq g_x34.symm), E38, F36⟩
theorem own_ef_own_parse4 (m : MethodId) (x : Addr) : entryFrame m #[(.ref x)] 3 = mkF m 0 #[rv x, .unset, .unset] [] := by first | (simp [entryFrame, mkF, argsToLocals, Value.category]; done) | rfl
set_option maxRecDepth 65536 in
set_option maxHeartbeats 40000000 in
theorem own_parse4 (l : Launch) (Z : State) (a0 : Array Value) (H : own_Wld Z a0) {cw : List Jvm.Cond} (x : Addr) (t : Addr) (c0 : Int32) (c1 : Int32) (c2 : Int32) (c3 : Int32) (h0 : Heap) (O0 : Ext Z.heap h0) (St_x : Own.Str Z h0 x t ([c0, c1, c2, c3] : List Int32)) (r_c0 : ¬ c0 < 33 ∧ ¬ (126 : Int32) < c0) (r_c1 : ¬ c1 < 33 ∧ ¬ (126 : Int32) < c1) (r_c2 : ¬ c2 < 33 ∧ ¬ (126 : Int32) < c2) (r_c3 : ¬ c3 < 33 ∧ ¬ (126 : Int32) < c3) :
    Own.Con l Z ([] : List (String × Nat)) (⟨"com/example/latchkey/latchkey/ApiKey", "parse", "(Ljava/lang/String;)Lcom/example/latchkey/latchkey/ApiKey;"⟩ : MethodName) prog_1_method_2_code 3 (some (.object "com/example/latchkey/latchkey/ApiKey")) cw ({ frames := 4, cells := 1, slots := 1, locals := 53 } : Room) #[(.ref x)] h0 (fun v h => Keep h0 h [] ∧ ∃ a, v = some (.ref a) ∧ h0.size ≤ a ∧ Exa Z h a "com/example/latchkey/latchkey/ApiKey" ∧ Fld Z h a "com/example/latchkey/latchkey/ApiKey" "value" "Ljava/lang/String;" (.ref x)) := by
  have hw := H.1
  have hW := fun (i : Nat) (w : Jvm.Cond) (e : tables_1[i]? = some w) => hw w (List.mem_of_getElem? e)
  have hCm := H.2.1
  have hSi := H.2.2
  have hWs : ∀ d ∈ StrChars.Road.words, d.before a0 Z = true := fun d hd => hw d (own_wbackV d hd)
  have hWl : ∀ d ∈ StrChars.Road.wordsLen, d.before a0 Z = true := fun d hd => hw d (own_wlenW d hd)
  have hWc : ∀ d ∈ StrChars.Road.wordsChN, d.before a0 Z = true := fun d hd => hw d (own_wchN d hd)
  have hWm : ∀ d ∈ StrChars.Road.wordsEmp, d.before a0 Z = true := fun d hd => hw d (own_wempW d hd)
  refine Own.Con.of own_pnf13aec rfl O0 ?_
  intro p e s m below meth c T0 G vm0 hx hby hml hret hnm hG hR S0
  have hz : ∀ L : Array Slot, L.size = 3 → L.size = c.maxLocals := fun L q => q.trans hml.symm
  rw [own_ef_own_parse4]
  show G T0 (mkF m 0 #[rv x, .unset, .unset] [])
  refine hG.st (fun t q => XS.aloadN S0.here hx rfl (hb hby own_dprog_1_method_2_code_0) rfl rfl (XS.ifnullNo S0.here hx rfl (hb hby own_dprog_1_method_2_code_1) rfl (XS.aloadN S0.here hx rfl (hb hby own_dprog_1_method_2_code_4) rfl rfl q))) ?_
  show G T0 (mkF m 5 #[rv x, .unset, .unset] [(.ref x)])
  refine Own.Sit.strEmp hG S0 hx hWm (hW 7 _ rfl) (hW 39 _ rfl) (hW 40 _ rfl) (hW 42 _ rfl) (hW 41 _ rfl) St_x rfl (hz _ rfl) (rest := []) rfl (W := 0) (by show 2 * 0 + _ ≤ _; exact Nat.le_of_eq rfl) (hb hby own_dprog_1_method_2_code_5) (by decide) (by decide) (by decide) (by decide) (fun T39 S39 => ?_)
  show G T39 (mkF m 8 #[rv x, .unset, .unset] [(.int 0)])
  refine hG.st (fun t q => XS.ifYes S39.here hx rfl (pc0 := 8) (pc' := 21) rfl (hb hby own_dprog_1_method_2_code_8) rfl ((if0 _ _).trans (teq (by decide : (0 : Int32) = (0 : Int32))).1) (by decide) (by decide) (XS.aloadN S39.here hx rfl (hb hby own_dprog_1_method_2_code_21) rfl rfl q)) ?_
  show G T39 (mkF m 22 #[rv x, .unset, .unset] [(.ref x)])
  refine Own.Sit.strLen hG S39 hx hWl hCm (hW 7 _ rfl) (hW 44 _ rfl) (hW 45 _ rfl) (hW 47 _ rfl) (hW 46 _ rfl) St_x rfl (hz _ rfl) (rest := []) rfl (W := 0) (by show 2 * 0 + _ ≤ _; exact Nat.le_of_eq rfl) (hb hby own_dprog_1_method_2_code_22) (by decide) (by decide) (by decide) (by decide) (fun T40 S40 => ?_)
  show G T40 (mkF m 25 #[rv x, .unset, .unset] [(.int 4)])
  refine hG.st (fun t q => XS.sipush S40.here hx rfl (hb hby own_dprog_1_method_2_code_25) (XS.icmpYes S40.here hx rfl (pc0 := 28) (pc' := 41) rfl (hb hby own_dprog_1_method_2_code_28) rfl (flt (by decide : ¬ ((255 : Int32) < (4 : Int32)))).2.2.2 (by decide) (by decide) (XS.iconst S40.here hx rfl (hb hby own_dprog_1_method_2_code_41) (XS.istoreN S40.here hx rfl (hb hby own_dprog_1_method_2_code_42) rfl (l' := #[rv x, iv 0, .unset]) rfl (XS.iloadN S40.here hx rfl (hb hby own_dprog_1_method_2_code_43) rfl (XS.aloadN S40.here hx rfl (hb hby own_dprog_1_method_2_code_44) rfl rfl q)))))) ?_
  show G T40 (mkF m 45 #[rv x, iv 0, .unset] [(.ref x), (.int 0)])
  refine Own.Sit.strLen hG S40 hx hWl hCm (hW 7 _ rfl) (hW 44 _ rfl) (hW 45 _ rfl) (hW 47 _ rfl) (hW 46 _ rfl) St_x rfl (hz _ rfl) (rest := [(.int 0)]) rfl (W := 1) (by show 2 * 0 + _ ≤ _; exact Nat.le_of_eq rfl) (hb hby own_dprog_1_method_2_code_45) (by decide) (by decide) (by decide) (by decide) (fun T41 S41 => ?_)
  show G T41 (mkF m 48 #[rv x, iv 0, .unset] [(.int 4), (.int 0)])
  refine hG.st (fun t q => XS.icmpNo S41.here hx rfl (hb hby own_dprog_1_method_2_code_48) rfl (tlt (by decide : (0 : Int32) < (4 : Int32))).2.1 (XS.aloadN S41.here hx rfl (hb hby own_dprog_1_method_2_code_51) rfl rfl (XS.iloadN S41.here hx rfl (hb hby own_dprog_1_method_2_code_52) rfl q))) ?_
  show G T41 (mkF m 53 #[rv x, iv 0, .unset] [(.int 0), (.ref x)])
  refine Own.Sit.strChar hG S41 hx hWc hCm hSi (hW 7 _ rfl) (hW 54 _ rfl) (hW 55 _ rfl) (hW 57 _ rfl) (hW 56 _ rfl) St_x (i := 0) (Nat.le_of_ble_eq_true rfl) rfl rfl (hz _ rfl) (rest := []) rfl (W := 0) (by show 2 * 0 + _ ≤ _; exact Nat.le_of_eq rfl) (hb hby own_dprog_1_method_2_code_53) (by decide) (by decide) (by decide) (by decide) (fun T42 S42 => ?_)
  show G T42 (mkF m 56 #[rv x, iv 0, .unset] [(.int c0)])
  refine hG.st (fun t q => XS.istoreN S42.here hx rfl (hb hby own_dprog_1_method_2_code_56) rfl (l' := #[rv x, iv 0, iv c0]) rfl (XS.iloadN S42.here hx rfl (hb hby own_dprog_1_method_2_code_57) rfl (XS.bipush S42.here hx rfl (hb hby own_dprog_1_method_2_code_58) (XS.icmpNo S42.here hx rfl (hb hby own_dprog_1_method_2_code_60) rfl (flt (r_c0.1 : ¬ (c0 < (33 : Int32)))).1 (XS.iloadN S42.here hx rfl (hb hby own_dprog_1_method_2_code_63) rfl (XS.bipush S42.here hx rfl (hb hby own_dprog_1_method_2_code_64) q)))))) ?_
  show G T42 (mkF m 66 #[rv x, iv 0, iv c0] [(.int 126), (.int c0)])
  refine hG.st (fun t q => XS.icmpYes S42.here hx rfl (pc0 := 66) (pc' := 85) rfl (hb hby own_dprog_1_method_2_code_66) rfl (flt (r_c0.2 : ¬ ((126 : Int32) < c0))).2.2.2 (by decide) (by decide) (XS.iinc S42.here hx rfl (hb hby own_dprog_1_method_2_code_85) rfl (l' := #[rv x, iv 1, iv c0]) rfl (XS.goto S42.here hx rfl (pc0 := 88) (pc' := 43) rfl (hb hby own_dprog_1_method_2_code_88) (by decide) (by decide) (XS.iloadN S42.here hx rfl (hb hby own_dprog_1_method_2_code_43) rfl (XS.aloadN S42.here hx rfl (hb hby own_dprog_1_method_2_code_44) rfl rfl q))))) ?_
  show G T42 (mkF m 45 #[rv x, iv 1, iv c0] [(.ref x), (.int 1)])
  refine Own.Sit.strLen hG S42 hx hWl hCm (hW 7 _ rfl) (hW 44 _ rfl) (hW 45 _ rfl) (hW 47 _ rfl) (hW 46 _ rfl) St_x rfl (hz _ rfl) (rest := [(.int 1)]) rfl (W := 1) (by show 2 * 0 + _ ≤ _; exact Nat.le_of_eq rfl) (hb hby own_dprog_1_method_2_code_45) (by decide) (by decide) (by decide) (by decide) (fun T43 S43 => ?_)
  show G T43 (mkF m 48 #[rv x, iv 1, iv c0] [(.int 4), (.int 1)])
  refine hG.st (fun t q => XS.icmpNo S43.here hx rfl (hb hby own_dprog_1_method_2_code_48) rfl (tlt (by decide : (1 : Int32) < (4 : Int32))).2.1 (XS.aloadN S43.here hx rfl (hb hby own_dprog_1_method_2_code_51) rfl rfl (XS.iloadN S43.here hx rfl (hb hby own_dprog_1_method_2_code_52) rfl q))) ?_
  show G T43 (mkF m 53 #[rv x, iv 1, iv c0] [(.int 1), (.ref x)])
  refine Own.Sit.strChar hG S43 hx hWc hCm hSi (hW 7 _ rfl) (hW 54 _ rfl) (hW 55 _ rfl) (hW 57 _ rfl) (hW 56 _ rfl) St_x (i := 1) (Nat.le_of_ble_eq_true rfl) rfl rfl (hz _ rfl) (rest := []) rfl (W := 0) (by show 2 * 0 + _ ≤ _; exact Nat.le_of_eq rfl) (hb hby own_dprog_1_method_2_code_53) (by decide) (by decide) (by decide) (by decide) (fun T44 S44 => ?_)
  show G T44 (mkF m 56 #[rv x, iv 1, iv c0] [(.int c1)])
  refine hG.st (fun t q => XS.istoreN S44.here hx rfl (hb hby own_dprog_1_method_2_code_56) rfl (l' := #[rv x, iv 1, iv c1]) rfl (XS.iloadN S44.here hx rfl (hb hby own_dprog_1_method_2_code_57) rfl (XS.bipush S44.here hx rfl (hb hby own_dprog_1_method_2_code_58) (XS.icmpNo S44.here hx rfl (hb hby own_dprog_1_method_2_code_60) rfl (flt (r_c1.1 : ¬ (c1 < (33 : Int32)))).1 (XS.iloadN S44.here hx rfl (hb hby own_dprog_1_method_2_code_63) rfl (XS.bipush S44.here hx rfl (hb hby own_dprog_1_method_2_code_64) q)))))) ?_
  show G T44 (mkF m 66 #[rv x, iv 1, iv c1] [(.int 126), (.int c1)])
  refine hG.st (fun t q => XS.icmpYes S44.here hx rfl (pc0 := 66) (pc' := 85) rfl (hb hby own_dprog_1_method_2_code_66) rfl (flt (r_c1.2 : ¬ ((126 : Int32) < c1))).2.2.2 (by decide) (by decide) (XS.iinc S44.here hx rfl (hb hby own_dprog_1_method_2_code_85) rfl (l' := #[rv x, iv 2, iv c1]) rfl (XS.goto S44.here hx rfl (pc0 := 88) (pc' := 43) rfl (hb hby own_dprog_1_method_2_code_88) (by decide) (by decide) (XS.iloadN S44.here hx rfl (hb hby own_dprog_1_method_2_code_43) rfl (XS.aloadN S44.here hx rfl (hb hby own_dprog_1_method_2_code_44) rfl rfl q))))) ?_
  show G T44 (mkF m 45 #[rv x, iv 2, iv c1] [(.ref x), (.int 2)])
  refine Own.Sit.strLen hG S44 hx hWl hCm (hW 7 _ rfl) (hW 44 _ rfl) (hW 45 _ rfl) (hW 47 _ rfl) (hW 46 _ rfl) St_x rfl (hz _ rfl) (rest := [(.int 2)]) rfl (W := 1) (by show 2 * 0 + _ ≤ _; exact Nat.le_of_eq rfl) (hb hby own_dprog_1_method_2_code_45) (by decide) (by decide) (by decide) (by decide) (fun T45 S45 => ?_)
  show G T45 (mkF m 48 #[rv x, iv 2, iv c1] [(.int 4), (.int 2)])
  refine hG.st (fun t q => XS.icmpNo S45.here hx rfl (hb hby own_dprog_1_method_2_code_48) rfl (tlt (by decide : (2 : Int32) < (4 : Int32))).2.1 (XS.aloadN S45.here hx rfl (hb hby own_dprog_1_method_2_code_51) rfl rfl (XS.iloadN S45.here hx rfl (hb hby own_dprog_1_method_2_code_52) rfl q))) ?_
  show G T45 (mkF m 53 #[rv x, iv 2, iv c1] [(.int 2), (.ref x)])
  refine Own.Sit.strChar hG S45 hx hWc hCm hSi (hW 7 _ rfl) (hW 54 _ rfl) (hW 55 _ rfl) (hW 57 _ rfl) (hW 56 _ rfl) St_x (i := 2) (Nat.le_of_ble_eq_true rfl) rfl rfl (hz _ rfl) (rest := []) rfl (W := 0) (by show 2 * 0 + _ ≤ _; exact Nat.le_of_eq rfl) (hb hby own_dprog_1_method_2_code_53) (by decide) (by decide) (by decide) (by decide) (fun T46 S46 => ?_)
  show G T46 (mkF m 56 #[rv x, iv 2, iv c1] [(.int c2)])
  refine hG.st (fun t q => XS.istoreN S46.here hx rfl (hb hby own_dprog_1_method_2_code_56) rfl (l' := #[rv x, iv 2, iv c2]) rfl (XS.iloadN S46.here hx rfl (hb hby own_dprog_1_method_2_code_57) rfl (XS.bipush S46.here hx rfl (hb hby own_dprog_1_method_2_code_58) (XS.icmpNo S46.here hx rfl (hb hby own_dprog_1_method_2_code_60) rfl (flt (r_c2.1 : ¬ (c2 < (33 : Int32)))).1 (XS.iloadN S46.here hx rfl (hb hby own_dprog_1_method_2_code_63) rfl (XS.bipush S46.here hx rfl (hb hby own_dprog_1_method_2_code_64) q)))))) ?_
  show G T46 (mkF m 66 #[rv x, iv 2, iv c2] [(.int 126), (.int c2)])
  refine hG.st (fun t q => XS.icmpYes S46.here hx rfl (pc0 := 66) (pc' := 85) rfl (hb hby own_dprog_1_method_2_code_66) rfl (flt (r_c2.2 : ¬ ((126 : Int32) < c2))).2.2.2 (by decide) (by decide) (XS.iinc S46.here hx rfl (hb hby own_dprog_1_method_2_code_85) rfl (l' := #[rv x, iv 3, iv c2]) rfl (XS.goto S46.here hx rfl (pc0 := 88) (pc' := 43) rfl (hb hby own_dprog_1_method_2_code_88) (by decide) (by decide) (XS.iloadN S46.here hx rfl (hb hby own_dprog_1_method_2_code_43) rfl (XS.aloadN S46.here hx rfl (hb hby own_dprog_1_method_2_code_44) rfl rfl q))))) ?_
  show G T46 (mkF m 45 #[rv x, iv 3, iv c2] [(.ref x), (.int 3)])
  refine Own.Sit.strLen hG S46 hx hWl hCm (hW 7 _ rfl) (hW 44 _ rfl) (hW 45 _ rfl) (hW 47 _ rfl) (hW 46 _ rfl) St_x rfl (hz _ rfl) (rest := [(.int 3)]) rfl (W := 1) (by show 2 * 0 + _ ≤ _; exact Nat.le_of_eq rfl) (hb hby own_dprog_1_method_2_code_45) (by decide) (by decide) (by decide) (by decide) (fun T47 S47 => ?_)
  show G T47 (mkF m 48 #[rv x, iv 3, iv c2] [(.int 4), (.int 3)])
  refine hG.st (fun t q => XS.icmpNo S47.here hx rfl (hb hby own_dprog_1_method_2_code_48) rfl (tlt (by decide : (3 : Int32) < (4 : Int32))).2.1 (XS.aloadN S47.here hx rfl (hb hby own_dprog_1_method_2_code_51) rfl rfl (XS.iloadN S47.here hx rfl (hb hby own_dprog_1_method_2_code_52) rfl q))) ?_
  show G T47 (mkF m 53 #[rv x, iv 3, iv c2] [(.int 3), (.ref x)])
  refine Own.Sit.strChar hG S47 hx hWc hCm hSi (hW 7 _ rfl) (hW 54 _ rfl) (hW 55 _ rfl) (hW 57 _ rfl) (hW 56 _ rfl) St_x (i := 3) (Nat.le_of_ble_eq_true rfl) rfl rfl (hz _ rfl) (rest := []) rfl (W := 0) (by show 2 * 0 + _ ≤ _; exact Nat.le_of_eq rfl) (hb hby own_dprog_1_method_2_code_53) (by decide) (by decide) (by decide) (by decide) (fun T48 S48 => ?_)
  show G T48 (mkF m 56 #[rv x, iv 3, iv c2] [(.int c3)])
  refine hG.st (fun t q => XS.istoreN S48.here hx rfl (hb hby own_dprog_1_method_2_code_56) rfl (l' := #[rv x, iv 3, iv c3]) rfl (XS.iloadN S48.here hx rfl (hb hby own_dprog_1_method_2_code_57) rfl (XS.bipush S48.here hx rfl (hb hby own_dprog_1_method_2_code_58) (XS.icmpNo S48.here hx rfl (hb hby own_dprog_1_method_2_code_60) rfl (flt (r_c3.1 : ¬ (c3 < (33 : Int32)))).1 (XS.iloadN S48.here hx rfl (hb hby own_dprog_1_method_2_code_63) rfl (XS.bipush S48.here hx rfl (hb hby own_dprog_1_method_2_code_64) q)))))) ?_
  show G T48 (mkF m 66 #[rv x, iv 3, iv c3] [(.int 126), (.int c3)])
  refine hG.st (fun t q => XS.icmpYes S48.here hx rfl (pc0 := 66) (pc' := 85) rfl (hb hby own_dprog_1_method_2_code_66) rfl (flt (r_c3.2 : ¬ ((126 : Int32) < c3))).2.2.2 (by decide) (by decide) (XS.iinc S48.here hx rfl (hb hby own_dprog_1_method_2_code_85) rfl (l' := #[rv x, iv 4, iv c3]) rfl (XS.goto S48.here hx rfl (pc0 := 88) (pc' := 43) rfl (hb hby own_dprog_1_method_2_code_88) (by decide) (by decide) (XS.iloadN S48.here hx rfl (hb hby own_dprog_1_method_2_code_43) rfl (XS.aloadN S48.here hx rfl (hb hby own_dprog_1_method_2_code_44) rfl rfl q))))) ?_
  show G T48 (mkF m 45 #[rv x, iv 4, iv c3] [(.ref x), (.int 4)])
  refine Own.Sit.strLen hG S48 hx hWl hCm (hW 7 _ rfl) (hW 44 _ rfl) (hW 45 _ rfl) (hW 47 _ rfl) (hW 46 _ rfl) St_x rfl (hz _ rfl) (rest := [(.int 4)]) rfl (W := 1) (by show 2 * 0 + _ ≤ _; exact Nat.le_of_eq rfl) (hb hby own_dprog_1_method_2_code_45) (by decide) (by decide) (by decide) (by decide) (fun T49 S49 => ?_)
  show G T49 (mkF m 48 #[rv x, iv 4, iv c3] [(.int 4), (.int 4)])
  refine hG.st (fun t q => XS.icmpYes S49.here hx rfl (pc0 := 48) (pc' := 91) rfl (hb hby own_dprog_1_method_2_code_48) rfl (flt (by decide : ¬ ((4 : Int32) < (4 : Int32)))).2.1 (by decide) (by decide) q) ?_
  show G T49 (mkF m 91 #[rv x, iv 4, iv c3] [])
  refine Own.Sit.newO hG S49 hx (hW 76 _ rfl) (hW 77 _ rfl) (hW 37 _ rfl) rfl (hb hby own_dprog_1_method_2_code_91) (by decide) (by decide) (fun T50 h50 x50 g_x50 S50 J50 Sf50 E50 D50 => ?_)
  have lt_x50 := E50.lt
  have ga_x50 : Z.heap.size ≤ x50 := Nat.le_trans S49.le (Nat.le_of_eq g_x50.symm)
  have F51 : Fld Z h50 x50 "com/example/latchkey/latchkey/ApiKey" "value" "Ljava/lang/String;" .null := D50 (Or.inr (hW 83 _ rfl)) (ty := (.object "java/lang/String")) (by decide)
  show G T50 (mkF m 94 #[rv x, iv 4, iv c3] [(.ref x50)])
  refine hG.st (fun t q => XS.dup S50.here hx rfl (hb hby own_dprog_1_method_2_code_94) rfl rfl (XS.aloadN S50.here hx rfl (hb hby own_dprog_1_method_2_code_95) rfl rfl q)) ?_
  show G T50 (mkF m 96 #[rv x, iv 4, iv c3] [(.ref x), (.ref x50), (.ref x50)])
  refine Own.Sit.callI hG S50 hx rfl (as := [(.ref x)]) (hW 78 _ rfl) (hW 79 _ rfl) (hW 37 _ rfl) (hW 80 _ rfl) (by decide) (own_init l Z a0 H x50 x h50 S50.old ga_x50 E50 F51) own_pdab706b rfl rfl (hz _ rfl) (rest := [(.ref x50)]) rfl (W := 1) (by show 2 * 0 + _ ≤ _; exact Nat.le_of_eq rfl) (hb hby own_dprog_1_method_2_code_96) (by decide) (by decide) (by decide) (by decide) (ws := [x50]) (fun _ _ q => q.1) (sfS Own.safe0 sf0) (fun v52 vm52 T52 h52 S52 C52 q52 => ?_)
  obtain ⟨K52, rfl, F52⟩ := q52
  have J52 : Own.Stp Z ([] : List (String × Nat)) vm0 h50 vm52 h52 [x50] := ⟨K52, C52⟩
  show G T52 (mkF m 99 #[rv x, iv 4, iv c3] [(.ref x50)])
  have J53 : Own.Stp Z ([] : List (String × Nat)) vm0 h0 vm52 h52 [] := Own.Stp.trans J50 J52 (all0) (allS (Or.inr (Nat.le_of_eq g_x50.symm)) all0)
  have E54 := J52.exa E50
  exact Own.Sit.retO hR S52 hx hret rfl (Or.inr (Or.inr (Or.inr (Or.inr ⟨rfl, rfl, rfl⟩)))) (hb hby own_dprog_1_method_2_code_99) (by decide) (by decide) ⟨J53.1, x50, rfl, (Nat.le_of_eq g_x50.symm), E54, F52⟩
theorem own_pn119358 : plainFor (⟨"com/example/latchkey/latchkey/ApiKey", "value", "()Ljava/lang/String;"⟩ : MethodName) = true := by first | exact plainFor_of_name (by first | (simp [plainName, overriddenIn]; done) | decide +kernel) | decide +kernel
theorem own_dprog_1_method_3_code_0 : decode prog_1_method_3_code 0 = .ok (.aload_n 0, 1) := by decide +kernel
theorem own_dprog_1_method_3_code_1 : decode prog_1_method_3_code 1 = .ok (.getfield 7, 3) := by decide +kernel
theorem own_dprog_1_method_3_code_4 : decode prog_1_method_3_code 4 = .ok (.areturn, 1) := by decide +kernel
theorem own_ef_own_value (m : MethodId) (x : Addr) : entryFrame m #[(.ref x)] 1 = mkF m 0 #[rv x] [] := by first | (simp [entryFrame, mkF, argsToLocals, Value.category]; done) | rfl
set_option maxRecDepth 65536 in
set_option maxHeartbeats 40000000 in
theorem own_value (l : Launch) (Z : State) (a0 : Array Value) (H : own_Wld Z a0) {cw : List Jvm.Cond} (x : Addr) (r : Addr) (h0 : Heap) (O0 : Ext Z.heap h0) (F_x : Fld Z h0 x "com/example/latchkey/latchkey/ApiKey" "value" "Ljava/lang/String;" (.ref r)) :
    Own.Con l Z ([] : List (String × Nat)) (⟨"com/example/latchkey/latchkey/ApiKey", "value", "()Ljava/lang/String;"⟩ : MethodName) prog_1_method_3_code 1 (some (.object "java/lang/String")) cw ({ frames := 0, cells := 0, slots := 0, locals := 0 } : Room) #[(.ref x)] h0 (fun v h => Keep h0 h [] ∧ v = some (.ref r)) := by
  have hw := H.1
  have hW := fun (i : Nat) (w : Jvm.Cond) (e : tables_1[i]? = some w) => hw w (List.mem_of_getElem? e)
  have hCm := H.2.1
  have hSi := H.2.2
  have hWs : ∀ d ∈ StrChars.Road.words, d.before a0 Z = true := fun d hd => hw d (own_wbackV d hd)
  have hWl : ∀ d ∈ StrChars.Road.wordsLen, d.before a0 Z = true := fun d hd => hw d (own_wlenW d hd)
  have hWc : ∀ d ∈ StrChars.Road.wordsChN, d.before a0 Z = true := fun d hd => hw d (own_wchN d hd)
  have hWm : ∀ d ∈ StrChars.Road.wordsEmp, d.before a0 Z = true := fun d hd => hw d (own_wempW d hd)
  refine Own.Con.of own_pn119358 rfl O0 ?_
  intro p e s m below meth c T0 G vm0 hx hby hml hret hnm hG hR S0
  have hz : ∀ L : Array Slot, L.size = 1 → L.size = c.maxLocals := fun L q => q.trans hml.symm
  rw [own_ef_own_value]
  show G T0 (mkF m 0 #[rv x] [])
  refine hG.st (fun t q => XS.aloadN S0.here hx rfl (hb hby own_dprog_1_method_3_code_0) rfl rfl q) ?_
  show G T0 (mkF m 1 #[rv x] [(.ref x)])
  refine Own.Sit.getF hG S0 hx (host := "") (Or.inl (hW 82 _ rfl)) Via.refl F_x rfl rfl (hb hby own_dprog_1_method_3_code_1) (fun T55 S55 => ?_)
  show G T55 (mkF m 4 #[rv x] [(.ref r)])
  exact Own.Sit.retO hR S55 hx hret rfl (Or.inr (Or.inr (Or.inr (Or.inr ⟨rfl, rfl, rfl⟩)))) (hb hby own_dprog_1_method_3_code_4) (by decide) (by decide) ⟨(Keep.refl _ _), rfl⟩
theorem own_pn29c8fd : plainFor x = true := by first | exact plainFor_of_name (by first | (simp [plainName, overriddenIn]; done) | decide +kernel) | decide +kernel
theorem own_pd32dd48 : parseMethodDescriptor "(I)C" = some ⟨[.int], some .char⟩ := by decide +kernel
theorem own_pd2f6d8d : parseMethodDescriptor "(Ljava/lang/String;)Lcom/example/latchkey/latchkey/ApiKey;" = some ⟨[(.object "java/lang/String")], some (.object "com/example/latchkey/latchkey/ApiKey")⟩ := by decide +kernel
theorem own_pdaf964f : parseMethodDescriptor "()Ljava/lang/String;" = some ⟨[], some (.object "java/lang/String")⟩ := by decide +kernel
theorem own_pd67f3b2 : parseMethodDescriptor "(Ljava/lang/Object;)Z" = some ⟨[(.object "java/lang/Object")], some .boolean⟩ := by decide +kernel
theorem own_ef_own_law (m : MethodId) (q0 : Int32) (q1 : Int32) (q2 : Int32) (q3 : Int32) (q4 : Int32) : entryFrame m #[(.int q0), (.int q1), (.int q2), (.int q3), (.int q4)] maxLocals = mkF m 0 #[iv q0, iv q1, iv q2, iv q3, iv q4, .unset, .unset, .unset, .unset] [] := by first | (simp [entryFrame, mkF, argsToLocals, Value.category, maxLocals]; done) | rfl
set_option maxRecDepth 65536 in
set_option maxHeartbeats 40000000 in
theorem own_law (l : Launch) (Z : State) (a0 : Array Value) (H : own_Wld Z a0) {cw : List Jvm.Cond} (q0 : Int32) (q1 : Int32) (q2 : Int32) (q3 : Int32) (q4 : Int32) (h0 : Heap) (O0 : Ext Z.heap h0) :
    Own.Con l Z ([] : List (String × Nat)) x code maxLocals ret cw room_1 #[(.int q0), (.int q1), (.int q2), (.int q3), (.int q4)] h0 (fun v h => Keep h0 h [] ∧ v = some (.int 1)) := by
  have hw := H.1
  have hW := fun (i : Nat) (w : Jvm.Cond) (e : tables_1[i]? = some w) => hw w (List.mem_of_getElem? e)
  have hCm := H.2.1
  have hSi := H.2.2
  have hWs : ∀ d ∈ StrChars.Road.words, d.before a0 Z = true := fun d hd => hw d (own_wbackV d hd)
  have hWl : ∀ d ∈ StrChars.Road.wordsLen, d.before a0 Z = true := fun d hd => hw d (own_wlenW d hd)
  have hWc : ∀ d ∈ StrChars.Road.wordsChN, d.before a0 Z = true := fun d hd => hw d (own_wchN d hd)
  have hWm : ∀ d ∈ StrChars.Road.wordsEmp, d.before a0 Z = true := fun d hd => hw d (own_wempW d hd)
  refine Own.Con.of own_pn29c8fd rfl O0 ?_
  intro p e s m below meth c T0 G vm0 hx hby hml hret hnm hG hR S0
  have hz : ∀ L : Array Slot, L.size = maxLocals → L.size = c.maxLocals := fun L q => q.trans hml.symm
  rw [own_ef_own_law]
  show G T0 (mkF m 0 #[iv q0, iv q1, iv q2, iv q3, iv q4, .unset, .unset, .unset, .unset] [])
  refine hG.st (fun t q => XS.iconst S0.here hx rfl (hb hby at_0) (XS.iloadN S0.here hx rfl (hb hby at_1) rfl (XS.iconst S0.here hx rfl (hb hby at_2) (XS.iand S0.here hx rfl (hb hby at_3) rfl (XS.iadd S0.here hx rfl (hb hby at_4) rfl (XS.istore S0.here hx rfl (hb hby at_5) rfl (l' := #[iv q0, iv q1, iv q2, iv q3, iv q4, iv ((1 : Int32) + (q0 &&& (3 : Int32))), .unset, .unset, .unset]) rfl q)))))) ?_
  show G T0 (mkF m 7 #[iv q0, iv q1, iv q2, iv q3, iv q4, iv ((1 : Int32) + (q0 &&& (3 : Int32))), .unset, .unset, .unset] [])
  refine hG.st (fun t q => XS.iload S0.here hx rfl (hb hby at_7) rfl (XS.iconst S0.here hx rfl (hb hby at_9) q)) ?_
  show G T0 (mkF m 10 #[iv q0, iv q1, iv q2, iv q3, iv q4, iv ((1 : Int32) + (q0 &&& (3 : Int32))), .unset, .unset, .unset] [(.int 1), (.int ((1 : Int32) + (q0 &&& (3 : Int32))))])
  by_cases hc10 : ((1 : Int32) + (q0 &&& (3 : Int32))) = (1 : Int32)
  ·
    refine hG.st (fun t q => XS.icmpNo S0.here hx rfl (hb hby at_10) rfl (teq hc10).2 (XS.iconst S0.here hx rfl (hb hby at_13) q)) ?_
    show G T0 (mkF m 14 #[iv q0, iv q1, iv q2, iv q3, iv q4, iv ((1 : Int32) + (q0 &&& (3 : Int32))), .unset, .unset, .unset] [(.int 1)])
    refine Own.Sit.newP hG S0 hx (aty := .char) (hW 0 _ rfl) rfl (hb hby at_14) rfl (by decide) (cap := 1) (by decide) (by decide) (by decide) (by decide) (fun T56 h56 x56 k56 g_x56 S56 J56 Sf56 (V56 : Arv Z h56 x56 k56 .char (1 : Int32) [(.int 0)] (.int 0)) => ?_)
    have lt_x56 := V56.lt
    have ga_x56 : Z.heap.size ≤ x56 := Nat.le_trans S0.le (Nat.le_of_eq g_x56.symm)
    show G T56 (mkF m 16 #[iv q0, iv q1, iv q2, iv q3, iv q4, iv ((1 : Int32) + (q0 &&& (3 : Int32))), .unset, .unset, .unset] [(.ref x56)])
    refine hG.st (fun t q => XS.astore S56.here hx rfl (hb hby at_16) rfl rfl (l' := #[iv q0, iv q1, iv q2, iv q3, iv q4, iv ((1 : Int32) + (q0 &&& (3 : Int32))), .unset, rv x56, .unset]) rfl (XS.aload S56.here hx rfl (hb hby at_18) rfl rfl (XS.iconst S56.here hx rfl (hb hby at_20) (XS.iloadN S56.here hx rfl (hb hby at_21) rfl q)))) ?_
    show G T56 (mkF m 22 #[iv q0, iv q1, iv q2, iv q3, iv q4, iv ((1 : Int32) + (q0 &&& (3 : Int32))), .unset, rv x56, .unset] [(.int q1), (.int 0), (.ref x56)])
    refine Own.Sit.callS hG S56 hx (as := [(.int q1)]) (hW 1 _ rfl) (hW 2 _ rfl) (hW 3 _ rfl) (hW 4 _ rfl) (by decide) (own_pc l Z a0 H q1 h56 S56.old) own_pd32dd48 rfl rfl (hz _ rfl) (rest := [(.int 0), (.ref x56)]) rfl (W := 2) (by show 2 * 0 + _ ≤ _; exact Nat.le_of_eq rfl) (hb hby at_22) (by decide) (by decide) (by decide) (by decide) (ws := []) (fun _ _ q => q.1) sf0 (fun v57 vm57 T57 h57 S57 C57 q57 => ?_)
    obtain ⟨K57, c57, rfl, r57⟩ := q57
    have J57 : Own.Stp Z ([] : List (String × Nat)) vm0 h56 vm57 h57 [] := ⟨K57, C57⟩
    show G T57 (mkF m 25 #[iv q0, iv q1, iv q2, iv q3, iv q4, iv ((1 : Int32) + (q0 &&& (3 : Int32))), .unset, rv x56, .unset] [(.int c57), (.int 0), (.ref x56)])
    have V58 := J57.arv V56 nin0
    refine Own.Sit.stC hG S57 hx V58 ga_x56 ⟨by decide, by decide⟩ 0 rfl (Nat.le_of_ble_eq_true rfl) rfl rfl (hb hby at_25) (fun T59 h59 S59 J59 (V59 : Arv Z h59 x56 k56 .char (1 : Int32) [(.int (nar .char c57))] (.int 0)) => ?_)
    rw [own_rn r57] at V59
    show G T59 (mkF m 26 #[iv q0, iv q1, iv q2, iv q3, iv q4, iv ((1 : Int32) + (q0 &&& (3 : Int32))), .unset, rv x56, .unset] [])
    refine Own.Sit.newO hG S59 hx (hW 6 _ rfl) (hW 7 _ rfl) (hW 8 _ rfl) rfl (hb hby at_26) (by decide) (by decide) (fun T60 h60 x60 g_x60 S60 J60 Sf60 E60 D60 => ?_)
    have lt_x60 := E60.lt
    have ga_x60 : Z.heap.size ≤ x60 := Nat.le_trans S59.le (Nat.le_of_eq g_x60.symm)
    have F61 : Fld Z h60 x60 "java/lang/String" "coder" "B" (.int 0) := D60 (Or.inr (hW 32 _ rfl)) (ty := .byte) (by decide)
    have F62 : Fld Z h60 x60 "java/lang/String" "value" "[B" .null := D60 (Or.inr (hW 34 _ rfl)) (ty := (.array .byte)) (by decide)
    show G T60 (mkF m 29 #[iv q0, iv q1, iv q2, iv q3, iv q4, iv ((1 : Int32) + (q0 &&& (3 : Int32))), .unset, rv x56, .unset] [(.ref x60)])
    refine hG.st (fun t q => XS.dup S60.here hx rfl (hb hby at_29) rfl rfl (XS.aload S60.here hx rfl (hb hby at_30) rfl rfl q)) ?_
    show G T60 (mkF m 32 #[iv q0, iv q1, iv q2, iv q3, iv q4, iv ((1 : Int32) + (q0 &&& (3 : Int32))), .unset, rv x56, .unset] [(.ref x56), (.ref x60), (.ref x60)])
    have V63 := J60.arv V59 nin0
    have hp64 : ∀ c ∈ ([c57] : List Int32), ¬ c < 0 ∧ ¬ (255 : Int32) < c := by
      intro c hc
      simp only [List.mem_cons, List.not_mem_nil, or_false] at hc
      rcases hc with rfl
      · exact own_rg r57
    refine Own.Sit.newStr hG S60 hx hWs hCm (hW 7 _ rfl) (hW 9 _ rfl) (hW 10 _ rfl) (cs := ([c57] : List Int32)) ga_x60 Own.safe0 E60 F62 F61 V63 rfl (Nat.le_of_ble_eq_true rfl) (Nat.le_of_ble_eq_true rfl) hp64 (nn := 1) (Nat.le_of_ble_eq_true rfl) rfl (hz _ rfl) (rest := [(.ref x60)]) rfl (W := 1) (by show 2 * 0 + _ ≤ _; exact Nat.le_of_eq rfl) (hb hby at_32) (by decide) (by decide) (by decide) (by decide) (fun T65 h65 y65 S65 J65 u65 St65 => ?_)
    show G T65 (mkF m 35 #[iv q0, iv q1, iv q2, iv q3, iv q4, iv ((1 : Int32) + (q0 &&& (3 : Int32))), .unset, rv x56, .unset] [(.ref x60)])
    refine hG.st (fun t q => XS.astore S65.here hx rfl (hb hby at_35) rfl rfl (l' := #[iv q0, iv q1, iv q2, iv q3, iv q4, iv ((1 : Int32) + (q0 &&& (3 : Int32))), rv x60, rv x56, .unset]) rfl (XS.goto S65.here hx rfl (pc0 := 37) (pc' := 179) rfl (hb hby at_37) (by decide) (by decide) (XS.aload S65.here hx rfl (hb hby at_179) rfl rfl q))) ?_
    show G T65 (mkF m 181 #[iv q0, iv q1, iv q2, iv q3, iv q4, iv ((1 : Int32) + (q0 &&& (3 : Int32))), rv x60, rv x56, .unset] [(.ref x60)])
    refine Own.Sit.callS hG S65 hx (as := [(.ref x60)]) (hW 35 _ rfl) (hW 36 _ rfl) (hW 37 _ rfl) (hW 38 _ rfl) (by decide) (own_parse1 l Z a0 H x60 y65 c57 h65 S65.old St65 r57) own_pd2f6d8d rfl rfl (hz _ rfl) (rest := []) rfl (W := 0) (by show 2 * 0 + _ ≤ _; exact Nat.le_of_eq rfl) (hb hby at_181) (by decide) (by decide) (by decide) (by decide) (ws := []) (fun _ _ q => q.1) sf0 (fun v66 vm66 T66 h66 S66 C66 q66 => ?_)
    obtain ⟨K66, x66, rfl, u66, E66, F66⟩ := q66
    have J66 : Own.Stp Z ([] : List (String × Nat)) vm57 h65 vm66 h66 [] := ⟨K66, C66⟩
    show G T66 (mkF m 184 #[iv q0, iv q1, iv q2, iv q3, iv q4, iv ((1 : Int32) + (q0 &&& (3 : Int32))), rv x60, rv x56, .unset] [(.ref x66)])
    refine hG.st (fun t q => XS.astore S66.here hx rfl (hb hby at_184) rfl rfl (l' := #[iv q0, iv q1, iv q2, iv q3, iv q4, iv ((1 : Int32) + (q0 &&& (3 : Int32))), rv x60, rv x66, .unset]) rfl (XS.aload S66.here hx rfl (hb hby at_186) rfl rfl q)) ?_
    show G T66 (mkF m 188 #[iv q0, iv q1, iv q2, iv q3, iv q4, iv ((1 : Int32) + (q0 &&& (3 : Int32))), rv x60, rv x66, .unset] [(.ref x66)])
    refine Own.Sit.callV hG S66 hx (as := []) (hW 84 _ rfl) (hW 85 _ rfl) (hW 87 _ rfl) (hW 86 _ rfl) (hW 37 _ rfl) (hW 88 _ rfl) (by decide) E66 (own_value l Z a0 H x66 x60 h66 S66.old F66) own_pdaf964f rfl rfl (hz _ rfl) (rest := []) rfl (W := 0) (by show 2 * 0 + _ ≤ _; exact Nat.le_of_eq rfl) (hb hby at_188) (by decide) (by decide) (by decide) (by decide) (ws := []) (fun _ _ q => q.1) sf0 (fun v67 vm67 T67 h67 S67 C67 q67 => ?_)
    obtain ⟨K67, rfl⟩ := q67
    have J67 : Own.Stp Z ([] : List (String × Nat)) vm66 h66 vm67 h67 [] := ⟨K67, C67⟩
    show G T67 (mkF m 191 #[iv q0, iv q1, iv q2, iv q3, iv q4, iv ((1 : Int32) + (q0 &&& (3 : Int32))), rv x60, rv x66, .unset] [(.ref x60)])
    refine hG.st (fun t q => XS.astore S67.here hx rfl (hb hby at_191) rfl rfl (l' := #[iv q0, iv q1, iv q2, iv q3, iv q4, iv ((1 : Int32) + (q0 &&& (3 : Int32))), rv x60, rv x66, rv x60]) rfl (XS.aload S67.here hx rfl (hb hby at_193) rfl rfl (XS.ifnullNo S67.here hx rfl (hb hby at_195) rfl (XS.aload S67.here hx rfl (hb hby at_198) rfl rfl q)))) ?_
    show G T67 (mkF m 200 #[iv q0, iv q1, iv q2, iv q3, iv q4, iv ((1 : Int32) + (q0 &&& (3 : Int32))), rv x60, rv x66, rv x60] [(.ref x60)])
    have J68 : Own.Stp Z ([] : List (String × Nat)) vm57 h65 vm67 h67 [] := Own.Stp.trans J66 J67 (all0) all0
    have St69 := J68.str St65 nin0 nin0
    refine Own.Sit.strLen hG S67 hx hWl hCm (hW 7 _ rfl) (hW 89 _ rfl) (hW 45 _ rfl) (hW 47 _ rfl) (hW 46 _ rfl) St69 rfl (hz _ rfl) (rest := []) rfl (W := 0) (by show 2 * 0 + _ ≤ _; exact Nat.le_of_eq rfl) (hb hby at_200) (by decide) (by decide) (by decide) (by decide) (fun T70 S70 => ?_)
    show G T70 (mkF m 203 #[iv q0, iv q1, iv q2, iv q3, iv q4, iv ((1 : Int32) + (q0 &&& (3 : Int32))), rv x60, rv x66, rv x60] [(.int 1)])
    refine hG.st (fun t q => XS.iload S70.here hx rfl (hb hby at_203) rfl (XS.icmpNo S70.here hx rfl (hb hby at_205) rfl (teq (hc10.symm : (1 : Int32) = ((1 : Int32) + (q0 &&& (3 : Int32))))).2 (XS.aload S70.here hx rfl (hb hby at_208) rfl rfl (XS.aload S70.here hx rfl (hb hby at_210) rfl rfl q)))) ?_
    show G T70 (mkF m 212 #[iv q0, iv q1, iv q2, iv q3, iv q4, iv ((1 : Int32) + (q0 &&& (3 : Int32))), rv x60, rv x66, rv x60] [(.ref x60), (.ref x60)])
    refine Own.Sit.callV hG S70 hx (as := [(.ref x60)]) (hW 90 _ rfl) (hW 91 _ rfl) (hW 93 _ rfl) (hW 92 _ rfl) (hW 8 _ rfl) (hW 94 _ rfl) (by decide) St69.exa (own_eqself l Z a0 H x60 h67 S70.old) own_pd67f3b2 rfl rfl (hz _ rfl) (rest := []) rfl (W := 0) (by show 2 * 0 + _ ≤ _; exact Nat.le_of_eq rfl) (hb hby at_212) (by decide) (by decide) (by decide) (by decide) (ws := []) (fun _ _ q => q.1) sf0 (fun v71 vm71 T71 h71 S71 C71 q71 => ?_)
    obtain ⟨K71, rfl⟩ := q71
    have J71 : Own.Stp Z ([] : List (String × Nat)) vm67 h67 vm71 h71 [] := ⟨K71, C71⟩
    show G T71 (mkF m 215 #[iv q0, iv q1, iv q2, iv q3, iv q4, iv ((1 : Int32) + (q0 &&& (3 : Int32))), rv x60, rv x66, rv x60] [(.int 1)])
    refine hG.st (fun t q => XS.ifNo S71.here hx rfl (hb hby at_215) rfl ((if0 _ _).trans (feq (by decide : ¬ ((1 : Int32) = (0 : Int32)))).1) (XS.iconst S71.here hx rfl (hb hby at_218) (XS.goto S71.here hx rfl (pc0 := 219) (pc' := 223) rfl (hb hby at_219) (by decide) (by decide) q))) ?_
    show G T71 (mkF m 223 #[iv q0, iv q1, iv q2, iv q3, iv q4, iv ((1 : Int32) + (q0 &&& (3 : Int32))), rv x60, rv x66, rv x60] [(.int 1)])
    have J72 : Own.Stp Z ([] : List (String × Nat)) vm0 h0 vm57 h57 [] := Own.Stp.trans J56 J57 (all0) all0
    have J73 : Own.Stp Z ([] : List (String × Nat)) vm0 h0 vm57 h59 [] := Own.Stp.trans J72 J59 (all0) (allS (Or.inr (Nat.le_of_eq g_x56.symm)) all0)
    have J74 : Own.Stp Z ([] : List (String × Nat)) vm0 h0 vm57 h60 [] := Own.Stp.trans J73 J60 (all0) all0
    have J75 : Own.Stp Z ([] : List (String × Nat)) vm0 h0 vm57 h65 [] := Own.Stp.trans J74 J65 (all0) (allS (Or.inr (Nat.le_trans J73.1.1 (Nat.le_of_eq g_x60.symm))) all0)
    have J76 : Own.Stp Z ([] : List (String × Nat)) vm0 h0 vm66 h66 [] := Own.Stp.trans J75 J66 (all0) all0
    have J77 : Own.Stp Z ([] : List (String × Nat)) vm0 h0 vm67 h67 [] := Own.Stp.trans J76 J67 (all0) all0
    have J78 : Own.Stp Z ([] : List (String × Nat)) vm0 h0 vm71 h71 [] := Own.Stp.trans J77 J71 (all0) all0
    exact Own.Sit.retN hR S71 hx (t := .boolean) hret (by simp) (hb hby at_223) (by decide) (by decide) ⟨J78.1, rfl⟩
  ·
    refine hG.st (fun t q => XS.icmpYes S0.here hx rfl (pc0 := 10) (pc' := 40) rfl (hb hby at_10) rfl (feq hc10).2 (by decide) (by decide) (XS.iload S0.here hx rfl (hb hby at_40) rfl (XS.iconst S0.here hx rfl (hb hby at_42) q))) ?_
    show G T0 (mkF m 43 #[iv q0, iv q1, iv q2, iv q3, iv q4, iv ((1 : Int32) + (q0 &&& (3 : Int32))), .unset, .unset, .unset] [(.int 2), (.int ((1 : Int32) + (q0 &&& (3 : Int32))))])
    by_cases hc43 : ((1 : Int32) + (q0 &&& (3 : Int32))) = (2 : Int32)
    ·
      refine hG.st (fun t q => XS.icmpNo S0.here hx rfl (hb hby at_43) rfl (teq hc43).2 (XS.iconst S0.here hx rfl (hb hby at_46) q)) ?_
      show G T0 (mkF m 47 #[iv q0, iv q1, iv q2, iv q3, iv q4, iv ((1 : Int32) + (q0 &&& (3 : Int32))), .unset, .unset, .unset] [(.int 2)])
      refine Own.Sit.newP hG S0 hx (aty := .char) (hW 0 _ rfl) rfl (hb hby at_47) rfl (by decide) (cap := 2) (by decide) (by decide) (by decide) (by decide) (fun T79 h79 x79 k79 g_x79 S79 J79 Sf79 (V79 : Arv Z h79 x79 k79 .char (2 : Int32) [(.int 0), (.int 0)] (.int 0)) => ?_)
      have lt_x79 := V79.lt
      have ga_x79 : Z.heap.size ≤ x79 := Nat.le_trans S0.le (Nat.le_of_eq g_x79.symm)
      show G T79 (mkF m 49 #[iv q0, iv q1, iv q2, iv q3, iv q4, iv ((1 : Int32) + (q0 &&& (3 : Int32))), .unset, .unset, .unset] [(.ref x79)])
      refine hG.st (fun t q => XS.astore S79.here hx rfl (hb hby at_49) rfl rfl (l' := #[iv q0, iv q1, iv q2, iv q3, iv q4, iv ((1 : Int32) + (q0 &&& (3 : Int32))), .unset, rv x79, .unset]) rfl (XS.aload S79.here hx rfl (hb hby at_51) rfl rfl (XS.iconst S79.here hx rfl (hb hby at_53) (XS.iloadN S79.here hx rfl (hb hby at_54) rfl q)))) ?_
      show G T79 (mkF m 55 #[iv q0, iv q1, iv q2, iv q3, iv q4, iv ((1 : Int32) + (q0 &&& (3 : Int32))), .unset, rv x79, .unset] [(.int q1), (.int 0), (.ref x79)])
      refine Own.Sit.callS hG S79 hx (as := [(.int q1)]) (hW 1 _ rfl) (hW 2 _ rfl) (hW 3 _ rfl) (hW 4 _ rfl) (by decide) (own_pc l Z a0 H q1 h79 S79.old) own_pd32dd48 rfl rfl (hz _ rfl) (rest := [(.int 0), (.ref x79)]) rfl (W := 2) (by show 2 * 0 + _ ≤ _; exact Nat.le_of_eq rfl) (hb hby at_55) (by decide) (by decide) (by decide) (by decide) (ws := []) (fun _ _ q => q.1) sf0 (fun v80 vm80 T80 h80 S80 C80 q80 => ?_)
      obtain ⟨K80, c80, rfl, r80⟩ := q80
      have J80 : Own.Stp Z ([] : List (String × Nat)) vm0 h79 vm80 h80 [] := ⟨K80, C80⟩
      show G T80 (mkF m 58 #[iv q0, iv q1, iv q2, iv q3, iv q4, iv ((1 : Int32) + (q0 &&& (3 : Int32))), .unset, rv x79, .unset] [(.int c80), (.int 0), (.ref x79)])
      have V81 := J80.arv V79 nin0
      refine Own.Sit.stC hG S80 hx V81 ga_x79 ⟨by decide, by decide⟩ 0 rfl (Nat.le_of_ble_eq_true rfl) rfl rfl (hb hby at_58) (fun T82 h82 S82 J82 (V82 : Arv Z h82 x79 k79 .char (2 : Int32) [(.int (nar .char c80)), (.int 0)] (.int 0)) => ?_)
      rw [own_rn r80] at V82
      show G T82 (mkF m 59 #[iv q0, iv q1, iv q2, iv q3, iv q4, iv ((1 : Int32) + (q0 &&& (3 : Int32))), .unset, rv x79, .unset] [])
      refine hG.st (fun t q => XS.aload S82.here hx rfl (hb hby at_59) rfl rfl (XS.iconst S82.here hx rfl (hb hby at_61) (XS.iloadN S82.here hx rfl (hb hby at_62) rfl q))) ?_
      show G T82 (mkF m 63 #[iv q0, iv q1, iv q2, iv q3, iv q4, iv ((1 : Int32) + (q0 &&& (3 : Int32))), .unset, rv x79, .unset] [(.int q2), (.int 1), (.ref x79)])
      refine Own.Sit.callS hG S82 hx (as := [(.int q2)]) (hW 1 _ rfl) (hW 2 _ rfl) (hW 3 _ rfl) (hW 4 _ rfl) (by decide) (own_pc l Z a0 H q2 h82 S82.old) own_pd32dd48 rfl rfl (hz _ rfl) (rest := [(.int 1), (.ref x79)]) rfl (W := 2) (by show 2 * 0 + _ ≤ _; exact Nat.le_of_eq rfl) (hb hby at_63) (by decide) (by decide) (by decide) (by decide) (ws := []) (fun _ _ q => q.1) sf0 (fun v83 vm83 T83 h83 S83 C83 q83 => ?_)
      obtain ⟨K83, c83, rfl, r83⟩ := q83
      have J83 : Own.Stp Z ([] : List (String × Nat)) vm80 h82 vm83 h83 [] := ⟨K83, C83⟩
      show G T83 (mkF m 66 #[iv q0, iv q1, iv q2, iv q3, iv q4, iv ((1 : Int32) + (q0 &&& (3 : Int32))), .unset, rv x79, .unset] [(.int c83), (.int 1), (.ref x79)])
      have V84 := J83.arv V82 nin0
      refine Own.Sit.stC hG S83 hx V84 ga_x79 ⟨by decide, by decide⟩ 1 rfl (Nat.le_of_ble_eq_true rfl) rfl rfl (hb hby at_66) (fun T85 h85 S85 J85 (V85 : Arv Z h85 x79 k79 .char (2 : Int32) [(.int c80), (.int (nar .char c83))] (.int 0)) => ?_)
      rw [own_rn r83] at V85
      show G T85 (mkF m 67 #[iv q0, iv q1, iv q2, iv q3, iv q4, iv ((1 : Int32) + (q0 &&& (3 : Int32))), .unset, rv x79, .unset] [])
      refine Own.Sit.newO hG S85 hx (hW 6 _ rfl) (hW 7 _ rfl) (hW 8 _ rfl) rfl (hb hby at_67) (by decide) (by decide) (fun T86 h86 x86 g_x86 S86 J86 Sf86 E86 D86 => ?_)
      have lt_x86 := E86.lt
      have ga_x86 : Z.heap.size ≤ x86 := Nat.le_trans S85.le (Nat.le_of_eq g_x86.symm)
      have F87 : Fld Z h86 x86 "java/lang/String" "coder" "B" (.int 0) := D86 (Or.inr (hW 32 _ rfl)) (ty := .byte) (by decide)
      have F88 : Fld Z h86 x86 "java/lang/String" "value" "[B" .null := D86 (Or.inr (hW 34 _ rfl)) (ty := (.array .byte)) (by decide)
      show G T86 (mkF m 70 #[iv q0, iv q1, iv q2, iv q3, iv q4, iv ((1 : Int32) + (q0 &&& (3 : Int32))), .unset, rv x79, .unset] [(.ref x86)])
      refine hG.st (fun t q => XS.dup S86.here hx rfl (hb hby at_70) rfl rfl (XS.aload S86.here hx rfl (hb hby at_71) rfl rfl q)) ?_
      show G T86 (mkF m 73 #[iv q0, iv q1, iv q2, iv q3, iv q4, iv ((1 : Int32) + (q0 &&& (3 : Int32))), .unset, rv x79, .unset] [(.ref x79), (.ref x86), (.ref x86)])
      have V89 := J86.arv V85 nin0
      have hp90 : ∀ c ∈ ([c80, c83] : List Int32), ¬ c < 0 ∧ ¬ (255 : Int32) < c := by
        intro c hc
        simp only [List.mem_cons, List.not_mem_nil, or_false] at hc
        rcases hc with rfl | rfl
        · exact own_rg r80
        · exact own_rg r83
      refine Own.Sit.newStr hG S86 hx hWs hCm (hW 7 _ rfl) (hW 9 _ rfl) (hW 10 _ rfl) (cs := ([c80, c83] : List Int32)) ga_x86 Own.safe0 E86 F88 F87 V89 rfl (Nat.le_of_ble_eq_true rfl) (Nat.le_of_ble_eq_true rfl) hp90 (nn := 2) (Nat.le_of_ble_eq_true rfl) rfl (hz _ rfl) (rest := [(.ref x86)]) rfl (W := 1) (by show 2 * 0 + _ ≤ _; exact Nat.le_of_eq rfl) (hb hby at_73) (by decide) (by decide) (by decide) (by decide) (fun T91 h91 y91 S91 J91 u91 St91 => ?_)
      show G T91 (mkF m 76 #[iv q0, iv q1, iv q2, iv q3, iv q4, iv ((1 : Int32) + (q0 &&& (3 : Int32))), .unset, rv x79, .unset] [(.ref x86)])
      refine hG.st (fun t q => XS.astore S91.here hx rfl (hb hby at_76) rfl rfl (l' := #[iv q0, iv q1, iv q2, iv q3, iv q4, iv ((1 : Int32) + (q0 &&& (3 : Int32))), rv x86, rv x79, .unset]) rfl (XS.goto S91.here hx rfl (pc0 := 78) (pc' := 179) rfl (hb hby at_78) (by decide) (by decide) (XS.aload S91.here hx rfl (hb hby at_179) rfl rfl q))) ?_
      show G T91 (mkF m 181 #[iv q0, iv q1, iv q2, iv q3, iv q4, iv ((1 : Int32) + (q0 &&& (3 : Int32))), rv x86, rv x79, .unset] [(.ref x86)])
      refine Own.Sit.callS hG S91 hx (as := [(.ref x86)]) (hW 35 _ rfl) (hW 36 _ rfl) (hW 37 _ rfl) (hW 38 _ rfl) (by decide) (own_parse2 l Z a0 H x86 y91 c80 c83 h91 S91.old St91 r80 r83) own_pd2f6d8d rfl rfl (hz _ rfl) (rest := []) rfl (W := 0) (by show 2 * 0 + _ ≤ _; exact Nat.le_of_eq rfl) (hb hby at_181) (by decide) (by decide) (by decide) (by decide) (ws := []) (fun _ _ q => q.1) sf0 (fun v92 vm92 T92 h92 S92 C92 q92 => ?_)
      obtain ⟨K92, x92, rfl, u92, E92, F92⟩ := q92
      have J92 : Own.Stp Z ([] : List (String × Nat)) vm83 h91 vm92 h92 [] := ⟨K92, C92⟩
      show G T92 (mkF m 184 #[iv q0, iv q1, iv q2, iv q3, iv q4, iv ((1 : Int32) + (q0 &&& (3 : Int32))), rv x86, rv x79, .unset] [(.ref x92)])
      refine hG.st (fun t q => XS.astore S92.here hx rfl (hb hby at_184) rfl rfl (l' := #[iv q0, iv q1, iv q2, iv q3, iv q4, iv ((1 : Int32) + (q0 &&& (3 : Int32))), rv x86, rv x92, .unset]) rfl (XS.aload S92.here hx rfl (hb hby at_186) rfl rfl q)) ?_
      show G T92 (mkF m 188 #[iv q0, iv q1, iv q2, iv q3, iv q4, iv ((1 : Int32) + (q0 &&& (3 : Int32))), rv x86, rv x92, .unset] [(.ref x92)])
      refine Own.Sit.callV hG S92 hx (as := []) (hW 84 _ rfl) (hW 85 _ rfl) (hW 87 _ rfl) (hW 86 _ rfl) (hW 37 _ rfl) (hW 88 _ rfl) (by decide) E92 (own_value l Z a0 H x92 x86 h92 S92.old F92) own_pdaf964f rfl rfl (hz _ rfl) (rest := []) rfl (W := 0) (by show 2 * 0 + _ ≤ _; exact Nat.le_of_eq rfl) (hb hby at_188) (by decide) (by decide) (by decide) (by decide) (ws := []) (fun _ _ q => q.1) sf0 (fun v93 vm93 T93 h93 S93 C93 q93 => ?_)
      obtain ⟨K93, rfl⟩ := q93
      have J93 : Own.Stp Z ([] : List (String × Nat)) vm92 h92 vm93 h93 [] := ⟨K93, C93⟩
      show G T93 (mkF m 191 #[iv q0, iv q1, iv q2, iv q3, iv q4, iv ((1 : Int32) + (q0 &&& (3 : Int32))), rv x86, rv x92, .unset] [(.ref x86)])
      refine hG.st (fun t q => XS.astore S93.here hx rfl (hb hby at_191) rfl rfl (l' := #[iv q0, iv q1, iv q2, iv q3, iv q4, iv ((1 : Int32) + (q0 &&& (3 : Int32))), rv x86, rv x92, rv x86]) rfl (XS.aload S93.here hx rfl (hb hby at_193) rfl rfl (XS.ifnullNo S93.here hx rfl (hb hby at_195) rfl (XS.aload S93.here hx rfl (hb hby at_198) rfl rfl q)))) ?_
      show G T93 (mkF m 200 #[iv q0, iv q1, iv q2, iv q3, iv q4, iv ((1 : Int32) + (q0 &&& (3 : Int32))), rv x86, rv x92, rv x86] [(.ref x86)])
      have J94 : Own.Stp Z ([] : List (String × Nat)) vm83 h91 vm93 h93 [] := Own.Stp.trans J92 J93 (all0) all0
      have St95 := J94.str St91 nin0 nin0
      refine Own.Sit.strLen hG S93 hx hWl hCm (hW 7 _ rfl) (hW 89 _ rfl) (hW 45 _ rfl) (hW 47 _ rfl) (hW 46 _ rfl) St95 rfl (hz _ rfl) (rest := []) rfl (W := 0) (by show 2 * 0 + _ ≤ _; exact Nat.le_of_eq rfl) (hb hby at_200) (by decide) (by decide) (by decide) (by decide) (fun T96 S96 => ?_)
      show G T96 (mkF m 203 #[iv q0, iv q1, iv q2, iv q3, iv q4, iv ((1 : Int32) + (q0 &&& (3 : Int32))), rv x86, rv x92, rv x86] [(.int 2)])
      refine hG.st (fun t q => XS.iload S96.here hx rfl (hb hby at_203) rfl (XS.icmpNo S96.here hx rfl (hb hby at_205) rfl (teq (hc43.symm : (2 : Int32) = ((1 : Int32) + (q0 &&& (3 : Int32))))).2 (XS.aload S96.here hx rfl (hb hby at_208) rfl rfl (XS.aload S96.here hx rfl (hb hby at_210) rfl rfl q)))) ?_
      show G T96 (mkF m 212 #[iv q0, iv q1, iv q2, iv q3, iv q4, iv ((1 : Int32) + (q0 &&& (3 : Int32))), rv x86, rv x92, rv x86] [(.ref x86), (.ref x86)])
      refine Own.Sit.callV hG S96 hx (as := [(.ref x86)]) (hW 90 _ rfl) (hW 91 _ rfl) (hW 93 _ rfl) (hW 92 _ rfl) (hW 8 _ rfl) (hW 94 _ rfl) (by decide) St95.exa (own_eqself l Z a0 H x86 h93 S96.old) own_pd67f3b2 rfl rfl (hz _ rfl) (rest := []) rfl (W := 0) (by show 2 * 0 + _ ≤ _; exact Nat.le_of_eq rfl) (hb hby at_212) (by decide) (by decide) (by decide) (by decide) (ws := []) (fun _ _ q => q.1) sf0 (fun v97 vm97 T97 h97 S97 C97 q97 => ?_)
      obtain ⟨K97, rfl⟩ := q97
      have J97 : Own.Stp Z ([] : List (String × Nat)) vm93 h93 vm97 h97 [] := ⟨K97, C97⟩
      show G T97 (mkF m 215 #[iv q0, iv q1, iv q2, iv q3, iv q4, iv ((1 : Int32) + (q0 &&& (3 : Int32))), rv x86, rv x92, rv x86] [(.int 1)])
      refine hG.st (fun t q => XS.ifNo S97.here hx rfl (hb hby at_215) rfl ((if0 _ _).trans (feq (by decide : ¬ ((1 : Int32) = (0 : Int32)))).1) (XS.iconst S97.here hx rfl (hb hby at_218) (XS.goto S97.here hx rfl (pc0 := 219) (pc' := 223) rfl (hb hby at_219) (by decide) (by decide) q))) ?_
      show G T97 (mkF m 223 #[iv q0, iv q1, iv q2, iv q3, iv q4, iv ((1 : Int32) + (q0 &&& (3 : Int32))), rv x86, rv x92, rv x86] [(.int 1)])
      have J98 : Own.Stp Z ([] : List (String × Nat)) vm0 h0 vm80 h80 [] := Own.Stp.trans J79 J80 (all0) all0
      have J99 : Own.Stp Z ([] : List (String × Nat)) vm0 h0 vm80 h82 [] := Own.Stp.trans J98 J82 (all0) (allS (Or.inr (Nat.le_of_eq g_x79.symm)) all0)
      have J100 : Own.Stp Z ([] : List (String × Nat)) vm0 h0 vm83 h83 [] := Own.Stp.trans J99 J83 (all0) all0
      have J101 : Own.Stp Z ([] : List (String × Nat)) vm0 h0 vm83 h85 [] := Own.Stp.trans J100 J85 (all0) (allS (Or.inr (Nat.le_of_eq g_x79.symm)) all0)
      have J102 : Own.Stp Z ([] : List (String × Nat)) vm0 h0 vm83 h86 [] := Own.Stp.trans J101 J86 (all0) all0
      have J103 : Own.Stp Z ([] : List (String × Nat)) vm0 h0 vm83 h91 [] := Own.Stp.trans J102 J91 (all0) (allS (Or.inr (Nat.le_trans J101.1.1 (Nat.le_of_eq g_x86.symm))) all0)
      have J104 : Own.Stp Z ([] : List (String × Nat)) vm0 h0 vm92 h92 [] := Own.Stp.trans J103 J92 (all0) all0
      have J105 : Own.Stp Z ([] : List (String × Nat)) vm0 h0 vm93 h93 [] := Own.Stp.trans J104 J93 (all0) all0
      have J106 : Own.Stp Z ([] : List (String × Nat)) vm0 h0 vm97 h97 [] := Own.Stp.trans J105 J97 (all0) all0
      exact Own.Sit.retN hR S97 hx (t := .boolean) hret (by simp) (hb hby at_223) (by decide) (by decide) ⟨J106.1, rfl⟩
    ·
      refine hG.st (fun t q => XS.icmpYes S0.here hx rfl (pc0 := 43) (pc' := 81) rfl (hb hby at_43) rfl (feq hc43).2 (by decide) (by decide) (XS.iload S0.here hx rfl (hb hby at_81) rfl (XS.iconst S0.here hx rfl (hb hby at_83) q))) ?_
      show G T0 (mkF m 84 #[iv q0, iv q1, iv q2, iv q3, iv q4, iv ((1 : Int32) + (q0 &&& (3 : Int32))), .unset, .unset, .unset] [(.int 3), (.int ((1 : Int32) + (q0 &&& (3 : Int32))))])
      by_cases hc84 : ((1 : Int32) + (q0 &&& (3 : Int32))) = (3 : Int32)
      ·
        refine hG.st (fun t q => XS.icmpNo S0.here hx rfl (hb hby at_84) rfl (teq hc84).2 (XS.iconst S0.here hx rfl (hb hby at_87) q)) ?_
        show G T0 (mkF m 88 #[iv q0, iv q1, iv q2, iv q3, iv q4, iv ((1 : Int32) + (q0 &&& (3 : Int32))), .unset, .unset, .unset] [(.int 3)])
        refine Own.Sit.newP hG S0 hx (aty := .char) (hW 0 _ rfl) rfl (hb hby at_88) rfl (by decide) (cap := 3) (by decide) (by decide) (by decide) (by decide) (fun T107 h107 x107 k107 g_x107 S107 J107 Sf107 (V107 : Arv Z h107 x107 k107 .char (3 : Int32) [(.int 0), (.int 0), (.int 0)] (.int 0)) => ?_)
        have lt_x107 := V107.lt
        have ga_x107 : Z.heap.size ≤ x107 := Nat.le_trans S0.le (Nat.le_of_eq g_x107.symm)
        show G T107 (mkF m 90 #[iv q0, iv q1, iv q2, iv q3, iv q4, iv ((1 : Int32) + (q0 &&& (3 : Int32))), .unset, .unset, .unset] [(.ref x107)])
        refine hG.st (fun t q => XS.astore S107.here hx rfl (hb hby at_90) rfl rfl (l' := #[iv q0, iv q1, iv q2, iv q3, iv q4, iv ((1 : Int32) + (q0 &&& (3 : Int32))), .unset, rv x107, .unset]) rfl (XS.aload S107.here hx rfl (hb hby at_92) rfl rfl (XS.iconst S107.here hx rfl (hb hby at_94) (XS.iloadN S107.here hx rfl (hb hby at_95) rfl q)))) ?_
        show G T107 (mkF m 96 #[iv q0, iv q1, iv q2, iv q3, iv q4, iv ((1 : Int32) + (q0 &&& (3 : Int32))), .unset, rv x107, .unset] [(.int q1), (.int 0), (.ref x107)])
        refine Own.Sit.callS hG S107 hx (as := [(.int q1)]) (hW 1 _ rfl) (hW 2 _ rfl) (hW 3 _ rfl) (hW 4 _ rfl) (by decide) (own_pc l Z a0 H q1 h107 S107.old) own_pd32dd48 rfl rfl (hz _ rfl) (rest := [(.int 0), (.ref x107)]) rfl (W := 2) (by show 2 * 0 + _ ≤ _; exact Nat.le_of_eq rfl) (hb hby at_96) (by decide) (by decide) (by decide) (by decide) (ws := []) (fun _ _ q => q.1) sf0 (fun v108 vm108 T108 h108 S108 C108 q108 => ?_)
        obtain ⟨K108, c108, rfl, r108⟩ := q108
        have J108 : Own.Stp Z ([] : List (String × Nat)) vm0 h107 vm108 h108 [] := ⟨K108, C108⟩
        show G T108 (mkF m 99 #[iv q0, iv q1, iv q2, iv q3, iv q4, iv ((1 : Int32) + (q0 &&& (3 : Int32))), .unset, rv x107, .unset] [(.int c108), (.int 0), (.ref x107)])
        have V109 := J108.arv V107 nin0
        refine Own.Sit.stC hG S108 hx V109 ga_x107 ⟨by decide, by decide⟩ 0 rfl (Nat.le_of_ble_eq_true rfl) rfl rfl (hb hby at_99) (fun T110 h110 S110 J110 (V110 : Arv Z h110 x107 k107 .char (3 : Int32) [(.int (nar .char c108)), (.int 0), (.int 0)] (.int 0)) => ?_)
        rw [own_rn r108] at V110
        show G T110 (mkF m 100 #[iv q0, iv q1, iv q2, iv q3, iv q4, iv ((1 : Int32) + (q0 &&& (3 : Int32))), .unset, rv x107, .unset] [])
        refine hG.st (fun t q => XS.aload S110.here hx rfl (hb hby at_100) rfl rfl (XS.iconst S110.here hx rfl (hb hby at_102) (XS.iloadN S110.here hx rfl (hb hby at_103) rfl q))) ?_
        show G T110 (mkF m 104 #[iv q0, iv q1, iv q2, iv q3, iv q4, iv ((1 : Int32) + (q0 &&& (3 : Int32))), .unset, rv x107, .unset] [(.int q2), (.int 1), (.ref x107)])
        refine Own.Sit.callS hG S110 hx (as := [(.int q2)]) (hW 1 _ rfl) (hW 2 _ rfl) (hW 3 _ rfl) (hW 4 _ rfl) (by decide) (own_pc l Z a0 H q2 h110 S110.old) own_pd32dd48 rfl rfl (hz _ rfl) (rest := [(.int 1), (.ref x107)]) rfl (W := 2) (by show 2 * 0 + _ ≤ _; exact Nat.le_of_eq rfl) (hb hby at_104) (by decide) (by decide) (by decide) (by decide) (ws := []) (fun _ _ q => q.1) sf0 (fun v111 vm111 T111 h111 S111 C111 q111 => ?_)
        obtain ⟨K111, c111, rfl, r111⟩ := q111
        have J111 : Own.Stp Z ([] : List (String × Nat)) vm108 h110 vm111 h111 [] := ⟨K111, C111⟩
        show G T111 (mkF m 107 #[iv q0, iv q1, iv q2, iv q3, iv q4, iv ((1 : Int32) + (q0 &&& (3 : Int32))), .unset, rv x107, .unset] [(.int c111), (.int 1), (.ref x107)])
        have V112 := J111.arv V110 nin0
        refine Own.Sit.stC hG S111 hx V112 ga_x107 ⟨by decide, by decide⟩ 1 rfl (Nat.le_of_ble_eq_true rfl) rfl rfl (hb hby at_107) (fun T113 h113 S113 J113 (V113 : Arv Z h113 x107 k107 .char (3 : Int32) [(.int c108), (.int (nar .char c111)), (.int 0)] (.int 0)) => ?_)
        rw [own_rn r111] at V113
        show G T113 (mkF m 108 #[iv q0, iv q1, iv q2, iv q3, iv q4, iv ((1 : Int32) + (q0 &&& (3 : Int32))), .unset, rv x107, .unset] [])
        refine hG.st (fun t q => XS.aload S113.here hx rfl (hb hby at_108) rfl rfl (XS.iconst S113.here hx rfl (hb hby at_110) (XS.iloadN S113.here hx rfl (hb hby at_111) rfl q))) ?_
        show G T113 (mkF m 112 #[iv q0, iv q1, iv q2, iv q3, iv q4, iv ((1 : Int32) + (q0 &&& (3 : Int32))), .unset, rv x107, .unset] [(.int q3), (.int 2), (.ref x107)])
        refine Own.Sit.callS hG S113 hx (as := [(.int q3)]) (hW 1 _ rfl) (hW 2 _ rfl) (hW 3 _ rfl) (hW 4 _ rfl) (by decide) (own_pc l Z a0 H q3 h113 S113.old) own_pd32dd48 rfl rfl (hz _ rfl) (rest := [(.int 2), (.ref x107)]) rfl (W := 2) (by show 2 * 0 + _ ≤ _; exact Nat.le_of_eq rfl) (hb hby at_112) (by decide) (by decide) (by decide) (by decide) (ws := []) (fun _ _ q => q.1) sf0 (fun v114 vm114 T114 h114 S114 C114 q114 => ?_)
        obtain ⟨K114, c114, rfl, r114⟩ := q114
        have J114 : Own.Stp Z ([] : List (String × Nat)) vm111 h113 vm114 h114 [] := ⟨K114, C114⟩
        show G T114 (mkF m 115 #[iv q0, iv q1, iv q2, iv q3, iv q4, iv ((1 : Int32) + (q0 &&& (3 : Int32))), .unset, rv x107, .unset] [(.int c114), (.int 2), (.ref x107)])
        have V115 := J114.arv V113 nin0
        refine Own.Sit.stC hG S114 hx V115 ga_x107 ⟨by decide, by decide⟩ 2 rfl (Nat.le_of_ble_eq_true rfl) rfl rfl (hb hby at_115) (fun T116 h116 S116 J116 (V116 : Arv Z h116 x107 k107 .char (3 : Int32) [(.int c108), (.int c111), (.int (nar .char c114))] (.int 0)) => ?_)
        rw [own_rn r114] at V116
        show G T116 (mkF m 116 #[iv q0, iv q1, iv q2, iv q3, iv q4, iv ((1 : Int32) + (q0 &&& (3 : Int32))), .unset, rv x107, .unset] [])
        refine Own.Sit.newO hG S116 hx (hW 6 _ rfl) (hW 7 _ rfl) (hW 8 _ rfl) rfl (hb hby at_116) (by decide) (by decide) (fun T117 h117 x117 g_x117 S117 J117 Sf117 E117 D117 => ?_)
        have lt_x117 := E117.lt
        have ga_x117 : Z.heap.size ≤ x117 := Nat.le_trans S116.le (Nat.le_of_eq g_x117.symm)
        have F118 : Fld Z h117 x117 "java/lang/String" "coder" "B" (.int 0) := D117 (Or.inr (hW 32 _ rfl)) (ty := .byte) (by decide)
        have F119 : Fld Z h117 x117 "java/lang/String" "value" "[B" .null := D117 (Or.inr (hW 34 _ rfl)) (ty := (.array .byte)) (by decide)
        show G T117 (mkF m 119 #[iv q0, iv q1, iv q2, iv q3, iv q4, iv ((1 : Int32) + (q0 &&& (3 : Int32))), .unset, rv x107, .unset] [(.ref x117)])
        refine hG.st (fun t q => XS.dup S117.here hx rfl (hb hby at_119) rfl rfl (XS.aload S117.here hx rfl (hb hby at_120) rfl rfl q)) ?_
        show G T117 (mkF m 122 #[iv q0, iv q1, iv q2, iv q3, iv q4, iv ((1 : Int32) + (q0 &&& (3 : Int32))), .unset, rv x107, .unset] [(.ref x107), (.ref x117), (.ref x117)])
        have V120 := J117.arv V116 nin0
        have hp121 : ∀ c ∈ ([c108, c111, c114] : List Int32), ¬ c < 0 ∧ ¬ (255 : Int32) < c := by
          intro c hc
          simp only [List.mem_cons, List.not_mem_nil, or_false] at hc
          rcases hc with rfl | rfl | rfl
          · exact own_rg r108
          · exact own_rg r111
          · exact own_rg r114
        refine Own.Sit.newStr hG S117 hx hWs hCm (hW 7 _ rfl) (hW 9 _ rfl) (hW 10 _ rfl) (cs := ([c108, c111, c114] : List Int32)) ga_x117 Own.safe0 E117 F119 F118 V120 rfl (Nat.le_of_ble_eq_true rfl) (Nat.le_of_ble_eq_true rfl) hp121 (nn := 3) (Nat.le_of_ble_eq_true rfl) rfl (hz _ rfl) (rest := [(.ref x117)]) rfl (W := 1) (by show 2 * 0 + _ ≤ _; exact Nat.le_of_eq rfl) (hb hby at_122) (by decide) (by decide) (by decide) (by decide) (fun T122 h122 y122 S122 J122 u122 St122 => ?_)
        show G T122 (mkF m 125 #[iv q0, iv q1, iv q2, iv q3, iv q4, iv ((1 : Int32) + (q0 &&& (3 : Int32))), .unset, rv x107, .unset] [(.ref x117)])
        refine hG.st (fun t q => XS.astore S122.here hx rfl (hb hby at_125) rfl rfl (l' := #[iv q0, iv q1, iv q2, iv q3, iv q4, iv ((1 : Int32) + (q0 &&& (3 : Int32))), rv x117, rv x107, .unset]) rfl (XS.goto S122.here hx rfl (pc0 := 127) (pc' := 179) rfl (hb hby at_127) (by decide) (by decide) (XS.aload S122.here hx rfl (hb hby at_179) rfl rfl q))) ?_
        show G T122 (mkF m 181 #[iv q0, iv q1, iv q2, iv q3, iv q4, iv ((1 : Int32) + (q0 &&& (3 : Int32))), rv x117, rv x107, .unset] [(.ref x117)])
        refine Own.Sit.callS hG S122 hx (as := [(.ref x117)]) (hW 35 _ rfl) (hW 36 _ rfl) (hW 37 _ rfl) (hW 38 _ rfl) (by decide) (own_parse3 l Z a0 H x117 y122 c108 c111 c114 h122 S122.old St122 r108 r111 r114) own_pd2f6d8d rfl rfl (hz _ rfl) (rest := []) rfl (W := 0) (by show 2 * 0 + _ ≤ _; exact Nat.le_of_eq rfl) (hb hby at_181) (by decide) (by decide) (by decide) (by decide) (ws := []) (fun _ _ q => q.1) sf0 (fun v123 vm123 T123 h123 S123 C123 q123 => ?_)
        obtain ⟨K123, x123, rfl, u123, E123, F123⟩ := q123
        have J123 : Own.Stp Z ([] : List (String × Nat)) vm114 h122 vm123 h123 [] := ⟨K123, C123⟩
        show G T123 (mkF m 184 #[iv q0, iv q1, iv q2, iv q3, iv q4, iv ((1 : Int32) + (q0 &&& (3 : Int32))), rv x117, rv x107, .unset] [(.ref x123)])
        refine hG.st (fun t q => XS.astore S123.here hx rfl (hb hby at_184) rfl rfl (l' := #[iv q0, iv q1, iv q2, iv q3, iv q4, iv ((1 : Int32) + (q0 &&& (3 : Int32))), rv x117, rv x123, .unset]) rfl (XS.aload S123.here hx rfl (hb hby at_186) rfl rfl q)) ?_
        show G T123 (mkF m 188 #[iv q0, iv q1, iv q2, iv q3, iv q4, iv ((1 : Int32) + (q0 &&& (3 : Int32))), rv x117, rv x123, .unset] [(.ref x123)])
        refine Own.Sit.callV hG S123 hx (as := []) (hW 84 _ rfl) (hW 85 _ rfl) (hW 87 _ rfl) (hW 86 _ rfl) (hW 37 _ rfl) (hW 88 _ rfl) (by decide) E123 (own_value l Z a0 H x123 x117 h123 S123.old F123) own_pdaf964f rfl rfl (hz _ rfl) (rest := []) rfl (W := 0) (by show 2 * 0 + _ ≤ _; exact Nat.le_of_eq rfl) (hb hby at_188) (by decide) (by decide) (by decide) (by decide) (ws := []) (fun _ _ q => q.1) sf0 (fun v124 vm124 T124 h124 S124 C124 q124 => ?_)
        obtain ⟨K124, rfl⟩ := q124
        have J124 : Own.Stp Z ([] : List (String × Nat)) vm123 h123 vm124 h124 [] := ⟨K124, C124⟩
        show G T124 (mkF m 191 #[iv q0, iv q1, iv q2, iv q3, iv q4, iv ((1 : Int32) + (q0 &&& (3 : Int32))), rv x117, rv x123, .unset] [(.ref x117)])
        refine hG.st (fun t q => XS.astore S124.here hx rfl (hb hby at_191) rfl rfl (l' := #[iv q0, iv q1, iv q2, iv q3, iv q4, iv ((1 : Int32) + (q0 &&& (3 : Int32))), rv x117, rv x123, rv x117]) rfl (XS.aload S124.here hx rfl (hb hby at_193) rfl rfl (XS.ifnullNo S124.here hx rfl (hb hby at_195) rfl (XS.aload S124.here hx rfl (hb hby at_198) rfl rfl q)))) ?_
        show G T124 (mkF m 200 #[iv q0, iv q1, iv q2, iv q3, iv q4, iv ((1 : Int32) + (q0 &&& (3 : Int32))), rv x117, rv x123, rv x117] [(.ref x117)])
        have J125 : Own.Stp Z ([] : List (String × Nat)) vm114 h122 vm124 h124 [] := Own.Stp.trans J123 J124 (all0) all0
        have St126 := J125.str St122 nin0 nin0
        refine Own.Sit.strLen hG S124 hx hWl hCm (hW 7 _ rfl) (hW 89 _ rfl) (hW 45 _ rfl) (hW 47 _ rfl) (hW 46 _ rfl) St126 rfl (hz _ rfl) (rest := []) rfl (W := 0) (by show 2 * 0 + _ ≤ _; exact Nat.le_of_eq rfl) (hb hby at_200) (by decide) (by decide) (by decide) (by decide) (fun T127 S127 => ?_)
        show G T127 (mkF m 203 #[iv q0, iv q1, iv q2, iv q3, iv q4, iv ((1 : Int32) + (q0 &&& (3 : Int32))), rv x117, rv x123, rv x117] [(.int 3)])
        refine hG.st (fun t q => XS.iload S127.here hx rfl (hb hby at_203) rfl (XS.icmpNo S127.here hx rfl (hb hby at_205) rfl (teq (hc84.symm : (3 : Int32) = ((1 : Int32) + (q0 &&& (3 : Int32))))).2 (XS.aload S127.here hx rfl (hb hby at_208) rfl rfl (XS.aload S127.here hx rfl (hb hby at_210) rfl rfl q)))) ?_
        show G T127 (mkF m 212 #[iv q0, iv q1, iv q2, iv q3, iv q4, iv ((1 : Int32) + (q0 &&& (3 : Int32))), rv x117, rv x123, rv x117] [(.ref x117), (.ref x117)])
        refine Own.Sit.callV hG S127 hx (as := [(.ref x117)]) (hW 90 _ rfl) (hW 91 _ rfl) (hW 93 _ rfl) (hW 92 _ rfl) (hW 8 _ rfl) (hW 94 _ rfl) (by decide) St126.exa (own_eqself l Z a0 H x117 h124 S127.old) own_pd67f3b2 rfl rfl (hz _ rfl) (rest := []) rfl (W := 0) (by show 2 * 0 + _ ≤ _; exact Nat.le_of_eq rfl) (hb hby at_212) (by decide) (by decide) (by decide) (by decide) (ws := []) (fun _ _ q => q.1) sf0 (fun v128 vm128 T128 h128 S128 C128 q128 => ?_)
        obtain ⟨K128, rfl⟩ := q128
        have J128 : Own.Stp Z ([] : List (String × Nat)) vm124 h124 vm128 h128 [] := ⟨K128, C128⟩
        show G T128 (mkF m 215 #[iv q0, iv q1, iv q2, iv q3, iv q4, iv ((1 : Int32) + (q0 &&& (3 : Int32))), rv x117, rv x123, rv x117] [(.int 1)])
        refine hG.st (fun t q => XS.ifNo S128.here hx rfl (hb hby at_215) rfl ((if0 _ _).trans (feq (by decide : ¬ ((1 : Int32) = (0 : Int32)))).1) (XS.iconst S128.here hx rfl (hb hby at_218) (XS.goto S128.here hx rfl (pc0 := 219) (pc' := 223) rfl (hb hby at_219) (by decide) (by decide) q))) ?_
        show G T128 (mkF m 223 #[iv q0, iv q1, iv q2, iv q3, iv q4, iv ((1 : Int32) + (q0 &&& (3 : Int32))), rv x117, rv x123, rv x117] [(.int 1)])
        have J129 : Own.Stp Z ([] : List (String × Nat)) vm0 h0 vm108 h108 [] := Own.Stp.trans J107 J108 (all0) all0
        have J130 : Own.Stp Z ([] : List (String × Nat)) vm0 h0 vm108 h110 [] := Own.Stp.trans J129 J110 (all0) (allS (Or.inr (Nat.le_of_eq g_x107.symm)) all0)
        have J131 : Own.Stp Z ([] : List (String × Nat)) vm0 h0 vm111 h111 [] := Own.Stp.trans J130 J111 (all0) all0
        have J132 : Own.Stp Z ([] : List (String × Nat)) vm0 h0 vm111 h113 [] := Own.Stp.trans J131 J113 (all0) (allS (Or.inr (Nat.le_of_eq g_x107.symm)) all0)
        have J133 : Own.Stp Z ([] : List (String × Nat)) vm0 h0 vm114 h114 [] := Own.Stp.trans J132 J114 (all0) all0
        have J134 : Own.Stp Z ([] : List (String × Nat)) vm0 h0 vm114 h116 [] := Own.Stp.trans J133 J116 (all0) (allS (Or.inr (Nat.le_of_eq g_x107.symm)) all0)
        have J135 : Own.Stp Z ([] : List (String × Nat)) vm0 h0 vm114 h117 [] := Own.Stp.trans J134 J117 (all0) all0
        have J136 : Own.Stp Z ([] : List (String × Nat)) vm0 h0 vm114 h122 [] := Own.Stp.trans J135 J122 (all0) (allS (Or.inr (Nat.le_trans J134.1.1 (Nat.le_of_eq g_x117.symm))) all0)
        have J137 : Own.Stp Z ([] : List (String × Nat)) vm0 h0 vm123 h123 [] := Own.Stp.trans J136 J123 (all0) all0
        have J138 : Own.Stp Z ([] : List (String × Nat)) vm0 h0 vm124 h124 [] := Own.Stp.trans J137 J124 (all0) all0
        have J139 : Own.Stp Z ([] : List (String × Nat)) vm0 h0 vm128 h128 [] := Own.Stp.trans J138 J128 (all0) all0
        exact Own.Sit.retN hR S128 hx (t := .boolean) hret (by simp) (hb hby at_223) (by decide) (by decide) ⟨J139.1, rfl⟩
      ·
        refine hG.st (fun t q => XS.icmpYes S0.here hx rfl (pc0 := 84) (pc' := 130) rfl (hb hby at_84) rfl (feq hc84).2 (by decide) (by decide) (XS.iconst S0.here hx rfl (hb hby at_130) q)) ?_
        show G T0 (mkF m 131 #[iv q0, iv q1, iv q2, iv q3, iv q4, iv ((1 : Int32) + (q0 &&& (3 : Int32))), .unset, .unset, .unset] [(.int 4)])
        refine Own.Sit.newP hG S0 hx (aty := .char) (hW 0 _ rfl) rfl (hb hby at_131) rfl (by decide) (cap := 4) (by decide) (by decide) (by decide) (by decide) (fun T140 h140 x140 k140 g_x140 S140 J140 Sf140 (V140 : Arv Z h140 x140 k140 .char (4 : Int32) [(.int 0), (.int 0), (.int 0), (.int 0)] (.int 0)) => ?_)
        have lt_x140 := V140.lt
        have ga_x140 : Z.heap.size ≤ x140 := Nat.le_trans S0.le (Nat.le_of_eq g_x140.symm)
        show G T140 (mkF m 133 #[iv q0, iv q1, iv q2, iv q3, iv q4, iv ((1 : Int32) + (q0 &&& (3 : Int32))), .unset, .unset, .unset] [(.ref x140)])
        refine hG.st (fun t q => XS.astore S140.here hx rfl (hb hby at_133) rfl rfl (l' := #[iv q0, iv q1, iv q2, iv q3, iv q4, iv ((1 : Int32) + (q0 &&& (3 : Int32))), .unset, rv x140, .unset]) rfl (XS.aload S140.here hx rfl (hb hby at_135) rfl rfl (XS.iconst S140.here hx rfl (hb hby at_137) (XS.iloadN S140.here hx rfl (hb hby at_138) rfl q)))) ?_
        show G T140 (mkF m 139 #[iv q0, iv q1, iv q2, iv q3, iv q4, iv ((1 : Int32) + (q0 &&& (3 : Int32))), .unset, rv x140, .unset] [(.int q1), (.int 0), (.ref x140)])
        refine Own.Sit.callS hG S140 hx (as := [(.int q1)]) (hW 1 _ rfl) (hW 2 _ rfl) (hW 3 _ rfl) (hW 4 _ rfl) (by decide) (own_pc l Z a0 H q1 h140 S140.old) own_pd32dd48 rfl rfl (hz _ rfl) (rest := [(.int 0), (.ref x140)]) rfl (W := 2) (by show 2 * 0 + _ ≤ _; exact Nat.le_of_eq rfl) (hb hby at_139) (by decide) (by decide) (by decide) (by decide) (ws := []) (fun _ _ q => q.1) sf0 (fun v141 vm141 T141 h141 S141 C141 q141 => ?_)
        obtain ⟨K141, c141, rfl, r141⟩ := q141
        have J141 : Own.Stp Z ([] : List (String × Nat)) vm0 h140 vm141 h141 [] := ⟨K141, C141⟩
        show G T141 (mkF m 142 #[iv q0, iv q1, iv q2, iv q3, iv q4, iv ((1 : Int32) + (q0 &&& (3 : Int32))), .unset, rv x140, .unset] [(.int c141), (.int 0), (.ref x140)])
        have V142 := J141.arv V140 nin0
        refine Own.Sit.stC hG S141 hx V142 ga_x140 ⟨by decide, by decide⟩ 0 rfl (Nat.le_of_ble_eq_true rfl) rfl rfl (hb hby at_142) (fun T143 h143 S143 J143 (V143 : Arv Z h143 x140 k140 .char (4 : Int32) [(.int (nar .char c141)), (.int 0), (.int 0), (.int 0)] (.int 0)) => ?_)
        rw [own_rn r141] at V143
        show G T143 (mkF m 143 #[iv q0, iv q1, iv q2, iv q3, iv q4, iv ((1 : Int32) + (q0 &&& (3 : Int32))), .unset, rv x140, .unset] [])
        refine hG.st (fun t q => XS.aload S143.here hx rfl (hb hby at_143) rfl rfl (XS.iconst S143.here hx rfl (hb hby at_145) (XS.iloadN S143.here hx rfl (hb hby at_146) rfl q))) ?_
        show G T143 (mkF m 147 #[iv q0, iv q1, iv q2, iv q3, iv q4, iv ((1 : Int32) + (q0 &&& (3 : Int32))), .unset, rv x140, .unset] [(.int q2), (.int 1), (.ref x140)])
        refine Own.Sit.callS hG S143 hx (as := [(.int q2)]) (hW 1 _ rfl) (hW 2 _ rfl) (hW 3 _ rfl) (hW 4 _ rfl) (by decide) (own_pc l Z a0 H q2 h143 S143.old) own_pd32dd48 rfl rfl (hz _ rfl) (rest := [(.int 1), (.ref x140)]) rfl (W := 2) (by show 2 * 0 + _ ≤ _; exact Nat.le_of_eq rfl) (hb hby at_147) (by decide) (by decide) (by decide) (by decide) (ws := []) (fun _ _ q => q.1) sf0 (fun v144 vm144 T144 h144 S144 C144 q144 => ?_)
        obtain ⟨K144, c144, rfl, r144⟩ := q144
        have J144 : Own.Stp Z ([] : List (String × Nat)) vm141 h143 vm144 h144 [] := ⟨K144, C144⟩
        show G T144 (mkF m 150 #[iv q0, iv q1, iv q2, iv q3, iv q4, iv ((1 : Int32) + (q0 &&& (3 : Int32))), .unset, rv x140, .unset] [(.int c144), (.int 1), (.ref x140)])
        have V145 := J144.arv V143 nin0
        refine Own.Sit.stC hG S144 hx V145 ga_x140 ⟨by decide, by decide⟩ 1 rfl (Nat.le_of_ble_eq_true rfl) rfl rfl (hb hby at_150) (fun T146 h146 S146 J146 (V146 : Arv Z h146 x140 k140 .char (4 : Int32) [(.int c141), (.int (nar .char c144)), (.int 0), (.int 0)] (.int 0)) => ?_)
        rw [own_rn r144] at V146
        show G T146 (mkF m 151 #[iv q0, iv q1, iv q2, iv q3, iv q4, iv ((1 : Int32) + (q0 &&& (3 : Int32))), .unset, rv x140, .unset] [])
        refine hG.st (fun t q => XS.aload S146.here hx rfl (hb hby at_151) rfl rfl (XS.iconst S146.here hx rfl (hb hby at_153) (XS.iloadN S146.here hx rfl (hb hby at_154) rfl q))) ?_
        show G T146 (mkF m 155 #[iv q0, iv q1, iv q2, iv q3, iv q4, iv ((1 : Int32) + (q0 &&& (3 : Int32))), .unset, rv x140, .unset] [(.int q3), (.int 2), (.ref x140)])
        refine Own.Sit.callS hG S146 hx (as := [(.int q3)]) (hW 1 _ rfl) (hW 2 _ rfl) (hW 3 _ rfl) (hW 4 _ rfl) (by decide) (own_pc l Z a0 H q3 h146 S146.old) own_pd32dd48 rfl rfl (hz _ rfl) (rest := [(.int 2), (.ref x140)]) rfl (W := 2) (by show 2 * 0 + _ ≤ _; exact Nat.le_of_eq rfl) (hb hby at_155) (by decide) (by decide) (by decide) (by decide) (ws := []) (fun _ _ q => q.1) sf0 (fun v147 vm147 T147 h147 S147 C147 q147 => ?_)
        obtain ⟨K147, c147, rfl, r147⟩ := q147
        have J147 : Own.Stp Z ([] : List (String × Nat)) vm144 h146 vm147 h147 [] := ⟨K147, C147⟩
        show G T147 (mkF m 158 #[iv q0, iv q1, iv q2, iv q3, iv q4, iv ((1 : Int32) + (q0 &&& (3 : Int32))), .unset, rv x140, .unset] [(.int c147), (.int 2), (.ref x140)])
        have V148 := J147.arv V146 nin0
        refine Own.Sit.stC hG S147 hx V148 ga_x140 ⟨by decide, by decide⟩ 2 rfl (Nat.le_of_ble_eq_true rfl) rfl rfl (hb hby at_158) (fun T149 h149 S149 J149 (V149 : Arv Z h149 x140 k140 .char (4 : Int32) [(.int c141), (.int c144), (.int (nar .char c147)), (.int 0)] (.int 0)) => ?_)
        rw [own_rn r147] at V149
        show G T149 (mkF m 159 #[iv q0, iv q1, iv q2, iv q3, iv q4, iv ((1 : Int32) + (q0 &&& (3 : Int32))), .unset, rv x140, .unset] [])
        refine hG.st (fun t q => XS.aload S149.here hx rfl (hb hby at_159) rfl rfl (XS.iconst S149.here hx rfl (hb hby at_161) (XS.iload S149.here hx rfl (hb hby at_162) rfl q))) ?_
        show G T149 (mkF m 164 #[iv q0, iv q1, iv q2, iv q3, iv q4, iv ((1 : Int32) + (q0 &&& (3 : Int32))), .unset, rv x140, .unset] [(.int q4), (.int 3), (.ref x140)])
        refine Own.Sit.callS hG S149 hx (as := [(.int q4)]) (hW 1 _ rfl) (hW 2 _ rfl) (hW 3 _ rfl) (hW 4 _ rfl) (by decide) (own_pc l Z a0 H q4 h149 S149.old) own_pd32dd48 rfl rfl (hz _ rfl) (rest := [(.int 3), (.ref x140)]) rfl (W := 2) (by show 2 * 0 + _ ≤ _; exact Nat.le_of_eq rfl) (hb hby at_164) (by decide) (by decide) (by decide) (by decide) (ws := []) (fun _ _ q => q.1) sf0 (fun v150 vm150 T150 h150 S150 C150 q150 => ?_)
        obtain ⟨K150, c150, rfl, r150⟩ := q150
        have J150 : Own.Stp Z ([] : List (String × Nat)) vm147 h149 vm150 h150 [] := ⟨K150, C150⟩
        show G T150 (mkF m 167 #[iv q0, iv q1, iv q2, iv q3, iv q4, iv ((1 : Int32) + (q0 &&& (3 : Int32))), .unset, rv x140, .unset] [(.int c150), (.int 3), (.ref x140)])
        have V151 := J150.arv V149 nin0
        refine Own.Sit.stC hG S150 hx V151 ga_x140 ⟨by decide, by decide⟩ 3 rfl (Nat.le_of_ble_eq_true rfl) rfl rfl (hb hby at_167) (fun T152 h152 S152 J152 (V152 : Arv Z h152 x140 k140 .char (4 : Int32) [(.int c141), (.int c144), (.int c147), (.int (nar .char c150))] (.int 0)) => ?_)
        rw [own_rn r150] at V152
        show G T152 (mkF m 168 #[iv q0, iv q1, iv q2, iv q3, iv q4, iv ((1 : Int32) + (q0 &&& (3 : Int32))), .unset, rv x140, .unset] [])
        refine Own.Sit.newO hG S152 hx (hW 6 _ rfl) (hW 7 _ rfl) (hW 8 _ rfl) rfl (hb hby at_168) (by decide) (by decide) (fun T153 h153 x153 g_x153 S153 J153 Sf153 E153 D153 => ?_)
        have lt_x153 := E153.lt
        have ga_x153 : Z.heap.size ≤ x153 := Nat.le_trans S152.le (Nat.le_of_eq g_x153.symm)
        have F154 : Fld Z h153 x153 "java/lang/String" "coder" "B" (.int 0) := D153 (Or.inr (hW 32 _ rfl)) (ty := .byte) (by decide)
        have F155 : Fld Z h153 x153 "java/lang/String" "value" "[B" .null := D153 (Or.inr (hW 34 _ rfl)) (ty := (.array .byte)) (by decide)
        show G T153 (mkF m 171 #[iv q0, iv q1, iv q2, iv q3, iv q4, iv ((1 : Int32) + (q0 &&& (3 : Int32))), .unset, rv x140, .unset] [(.ref x153)])
        refine hG.st (fun t q => XS.dup S153.here hx rfl (hb hby at_171) rfl rfl (XS.aload S153.here hx rfl (hb hby at_172) rfl rfl q)) ?_
        show G T153 (mkF m 174 #[iv q0, iv q1, iv q2, iv q3, iv q4, iv ((1 : Int32) + (q0 &&& (3 : Int32))), .unset, rv x140, .unset] [(.ref x140), (.ref x153), (.ref x153)])
        have V156 := J153.arv V152 nin0
        have hp157 : ∀ c ∈ ([c141, c144, c147, c150] : List Int32), ¬ c < 0 ∧ ¬ (255 : Int32) < c := by
          intro c hc
          simp only [List.mem_cons, List.not_mem_nil, or_false] at hc
          rcases hc with rfl | rfl | rfl | rfl
          · exact own_rg r141
          · exact own_rg r144
          · exact own_rg r147
          · exact own_rg r150
        refine Own.Sit.newStr hG S153 hx hWs hCm (hW 7 _ rfl) (hW 9 _ rfl) (hW 10 _ rfl) (cs := ([c141, c144, c147, c150] : List Int32)) ga_x153 Own.safe0 E153 F155 F154 V156 rfl (Nat.le_of_ble_eq_true rfl) (Nat.le_of_ble_eq_true rfl) hp157 (nn := 4) (Nat.le_of_ble_eq_true rfl) rfl (hz _ rfl) (rest := [(.ref x153)]) rfl (W := 1) (by show 2 * 0 + _ ≤ _; exact Nat.le_of_eq rfl) (hb hby at_174) (by decide) (by decide) (by decide) (by decide) (fun T158 h158 y158 S158 J158 u158 St158 => ?_)
        show G T158 (mkF m 177 #[iv q0, iv q1, iv q2, iv q3, iv q4, iv ((1 : Int32) + (q0 &&& (3 : Int32))), .unset, rv x140, .unset] [(.ref x153)])
        refine hG.st (fun t q => XS.astore S158.here hx rfl (hb hby at_177) rfl rfl (l' := #[iv q0, iv q1, iv q2, iv q3, iv q4, iv ((1 : Int32) + (q0 &&& (3 : Int32))), rv x153, rv x140, .unset]) rfl (XS.aload S158.here hx rfl (hb hby at_179) rfl rfl q)) ?_
        show G T158 (mkF m 181 #[iv q0, iv q1, iv q2, iv q3, iv q4, iv ((1 : Int32) + (q0 &&& (3 : Int32))), rv x153, rv x140, .unset] [(.ref x153)])
        refine Own.Sit.callS hG S158 hx (as := [(.ref x153)]) (hW 35 _ rfl) (hW 36 _ rfl) (hW 37 _ rfl) (hW 38 _ rfl) (by decide) (own_parse4 l Z a0 H x153 y158 c141 c144 c147 c150 h158 S158.old St158 r141 r144 r147 r150) own_pd2f6d8d rfl rfl (hz _ rfl) (rest := []) rfl (W := 0) (by show 2 * 0 + _ ≤ _; exact Nat.le_of_eq rfl) (hb hby at_181) (by decide) (by decide) (by decide) (by decide) (ws := []) (fun _ _ q => q.1) sf0 (fun v159 vm159 T159 h159 S159 C159 q159 => ?_)
        obtain ⟨K159, x159, rfl, u159, E159, F159⟩ := q159
        have J159 : Own.Stp Z ([] : List (String × Nat)) vm150 h158 vm159 h159 [] := ⟨K159, C159⟩
        show G T159 (mkF m 184 #[iv q0, iv q1, iv q2, iv q3, iv q4, iv ((1 : Int32) + (q0 &&& (3 : Int32))), rv x153, rv x140, .unset] [(.ref x159)])
        refine hG.st (fun t q => XS.astore S159.here hx rfl (hb hby at_184) rfl rfl (l' := #[iv q0, iv q1, iv q2, iv q3, iv q4, iv ((1 : Int32) + (q0 &&& (3 : Int32))), rv x153, rv x159, .unset]) rfl (XS.aload S159.here hx rfl (hb hby at_186) rfl rfl q)) ?_
        show G T159 (mkF m 188 #[iv q0, iv q1, iv q2, iv q3, iv q4, iv ((1 : Int32) + (q0 &&& (3 : Int32))), rv x153, rv x159, .unset] [(.ref x159)])
        refine Own.Sit.callV hG S159 hx (as := []) (hW 84 _ rfl) (hW 85 _ rfl) (hW 87 _ rfl) (hW 86 _ rfl) (hW 37 _ rfl) (hW 88 _ rfl) (by decide) E159 (own_value l Z a0 H x159 x153 h159 S159.old F159) own_pdaf964f rfl rfl (hz _ rfl) (rest := []) rfl (W := 0) (by show 2 * 0 + _ ≤ _; exact Nat.le_of_eq rfl) (hb hby at_188) (by decide) (by decide) (by decide) (by decide) (ws := []) (fun _ _ q => q.1) sf0 (fun v160 vm160 T160 h160 S160 C160 q160 => ?_)
        obtain ⟨K160, rfl⟩ := q160
        have J160 : Own.Stp Z ([] : List (String × Nat)) vm159 h159 vm160 h160 [] := ⟨K160, C160⟩
        show G T160 (mkF m 191 #[iv q0, iv q1, iv q2, iv q3, iv q4, iv ((1 : Int32) + (q0 &&& (3 : Int32))), rv x153, rv x159, .unset] [(.ref x153)])
        refine hG.st (fun t q => XS.astore S160.here hx rfl (hb hby at_191) rfl rfl (l' := #[iv q0, iv q1, iv q2, iv q3, iv q4, iv ((1 : Int32) + (q0 &&& (3 : Int32))), rv x153, rv x159, rv x153]) rfl (XS.aload S160.here hx rfl (hb hby at_193) rfl rfl (XS.ifnullNo S160.here hx rfl (hb hby at_195) rfl (XS.aload S160.here hx rfl (hb hby at_198) rfl rfl q)))) ?_
        show G T160 (mkF m 200 #[iv q0, iv q1, iv q2, iv q3, iv q4, iv ((1 : Int32) + (q0 &&& (3 : Int32))), rv x153, rv x159, rv x153] [(.ref x153)])
        have J161 : Own.Stp Z ([] : List (String × Nat)) vm150 h158 vm160 h160 [] := Own.Stp.trans J159 J160 (all0) all0
        have St162 := J161.str St158 nin0 nin0
        refine Own.Sit.strLen hG S160 hx hWl hCm (hW 7 _ rfl) (hW 89 _ rfl) (hW 45 _ rfl) (hW 47 _ rfl) (hW 46 _ rfl) St162 rfl (hz _ rfl) (rest := []) rfl (W := 0) (by show 2 * 0 + _ ≤ _; exact Nat.le_of_eq rfl) (hb hby at_200) (by decide) (by decide) (by decide) (by decide) (fun T163 S163 => ?_)
        show G T163 (mkF m 203 #[iv q0, iv q1, iv q2, iv q3, iv q4, iv ((1 : Int32) + (q0 &&& (3 : Int32))), rv x153, rv x159, rv x153] [(.int 4)])
        refine hG.st (fun t q => XS.iload S163.here hx rfl (hb hby at_203) rfl (XS.icmpNo S163.here hx rfl (hb hby at_205) rfl (teq (own_four hc10 hc43 hc84 : (4 : Int32) = ((1 : Int32) + (q0 &&& (3 : Int32))))).2 (XS.aload S163.here hx rfl (hb hby at_208) rfl rfl (XS.aload S163.here hx rfl (hb hby at_210) rfl rfl q)))) ?_
        show G T163 (mkF m 212 #[iv q0, iv q1, iv q2, iv q3, iv q4, iv ((1 : Int32) + (q0 &&& (3 : Int32))), rv x153, rv x159, rv x153] [(.ref x153), (.ref x153)])
        refine Own.Sit.callV hG S163 hx (as := [(.ref x153)]) (hW 90 _ rfl) (hW 91 _ rfl) (hW 93 _ rfl) (hW 92 _ rfl) (hW 8 _ rfl) (hW 94 _ rfl) (by decide) St162.exa (own_eqself l Z a0 H x153 h160 S163.old) own_pd67f3b2 rfl rfl (hz _ rfl) (rest := []) rfl (W := 0) (by show 2 * 0 + _ ≤ _; exact Nat.le_of_eq rfl) (hb hby at_212) (by decide) (by decide) (by decide) (by decide) (ws := []) (fun _ _ q => q.1) sf0 (fun v164 vm164 T164 h164 S164 C164 q164 => ?_)
        obtain ⟨K164, rfl⟩ := q164
        have J164 : Own.Stp Z ([] : List (String × Nat)) vm160 h160 vm164 h164 [] := ⟨K164, C164⟩
        show G T164 (mkF m 215 #[iv q0, iv q1, iv q2, iv q3, iv q4, iv ((1 : Int32) + (q0 &&& (3 : Int32))), rv x153, rv x159, rv x153] [(.int 1)])
        refine hG.st (fun t q => XS.ifNo S164.here hx rfl (hb hby at_215) rfl ((if0 _ _).trans (feq (by decide : ¬ ((1 : Int32) = (0 : Int32)))).1) (XS.iconst S164.here hx rfl (hb hby at_218) (XS.goto S164.here hx rfl (pc0 := 219) (pc' := 223) rfl (hb hby at_219) (by decide) (by decide) q))) ?_
        show G T164 (mkF m 223 #[iv q0, iv q1, iv q2, iv q3, iv q4, iv ((1 : Int32) + (q0 &&& (3 : Int32))), rv x153, rv x159, rv x153] [(.int 1)])
        have J165 : Own.Stp Z ([] : List (String × Nat)) vm0 h0 vm141 h141 [] := Own.Stp.trans J140 J141 (all0) all0
        have J166 : Own.Stp Z ([] : List (String × Nat)) vm0 h0 vm141 h143 [] := Own.Stp.trans J165 J143 (all0) (allS (Or.inr (Nat.le_of_eq g_x140.symm)) all0)
        have J167 : Own.Stp Z ([] : List (String × Nat)) vm0 h0 vm144 h144 [] := Own.Stp.trans J166 J144 (all0) all0
        have J168 : Own.Stp Z ([] : List (String × Nat)) vm0 h0 vm144 h146 [] := Own.Stp.trans J167 J146 (all0) (allS (Or.inr (Nat.le_of_eq g_x140.symm)) all0)
        have J169 : Own.Stp Z ([] : List (String × Nat)) vm0 h0 vm147 h147 [] := Own.Stp.trans J168 J147 (all0) all0
        have J170 : Own.Stp Z ([] : List (String × Nat)) vm0 h0 vm147 h149 [] := Own.Stp.trans J169 J149 (all0) (allS (Or.inr (Nat.le_of_eq g_x140.symm)) all0)
        have J171 : Own.Stp Z ([] : List (String × Nat)) vm0 h0 vm150 h150 [] := Own.Stp.trans J170 J150 (all0) all0
        have J172 : Own.Stp Z ([] : List (String × Nat)) vm0 h0 vm150 h152 [] := Own.Stp.trans J171 J152 (all0) (allS (Or.inr (Nat.le_of_eq g_x140.symm)) all0)
        have J173 : Own.Stp Z ([] : List (String × Nat)) vm0 h0 vm150 h153 [] := Own.Stp.trans J172 J153 (all0) all0
        have J174 : Own.Stp Z ([] : List (String × Nat)) vm0 h0 vm150 h158 [] := Own.Stp.trans J173 J158 (all0) (allS (Or.inr (Nat.le_trans J172.1.1 (Nat.le_of_eq g_x153.symm))) all0)
        have J175 : Own.Stp Z ([] : List (String × Nat)) vm0 h0 vm159 h159 [] := Own.Stp.trans J174 J159 (all0) all0
        have J176 : Own.Stp Z ([] : List (String × Nat)) vm0 h0 vm160 h160 [] := Own.Stp.trans J175 J160 (all0) all0
        have J177 : Own.Stp Z ([] : List (String × Nat)) vm0 h0 vm164 h164 [] := Own.Stp.trans J176 J164 (all0) all0
        exact Own.Sit.retN hR S164 hx (t := .boolean) hret (by simp) (hb hby at_223) (by decide) (by decide) ⟨J177.1, rfl⟩
set_option maxRecDepth 65536 in
set_option maxHeartbeats 40000000 in
theorem own_comes {Post : Tables → Env → Array Value → State → Outcome → State → Prop} (hpost : ∀ tb e args s v u, (limb_1_1.after args s (.returned v) u = true ∧ limb_1_2.after args s (.returned v) u = true ∧ True) → FrameEnd s (.returned v) u (Jvm.fieldLocs frame_1_writes args s ++ Jvm.arrayLocs frame_1_arrays args s ++ Jvm.staticLocs frame_1_statics s) 16 128 → Post tb e args s (.returned v) u) :
    ArmFor flags0 classFile x code maxLocals ret World_1 tables_1 room_1 Calls_1 rest_1 Pre_1 Post := by
  intro l hfl _ _ p e ha hc hk s m args below hf hA hF happ hP
  obtain ⟨hcalls, hrest, hpre⟩ := hP
  obtain ⟨-, -, -, hnamed, -, -, -, hat⟩ := (Spec.applies_iff hf).mp happ
  obtain ⟨hg, hn⟩ := and_e (Cond.before_iff.mp (show (Jvm.Cond.and given_1 narrow_1).before args s = true from hpre))
  obtain ⟨hcount, hg0⟩ := and_e hg
  obtain ⟨ha0, hg1⟩ := and_e hg0
  obtain ⟨ha1, hg2⟩ := and_e hg1
  obtain ⟨ha2, hg3⟩ := and_e hg2
  obtain ⟨ha3, hg4⟩ := and_e hg3
  have ha4 := hg4
  obtain ⟨w0, w1, w2, w3, w4, rfl⟩ : ∃ w0 w1 w2 w3 w4 : Value, args = #[w0, w1, w2, w3, w4] := by
    have hs : args.size = 5 := by simpa [Cond.value, given_1] using hcount
    obtain ⟨L⟩ := args
    match L, hs with
    | [w0, w1, w2, w3, w4], _ => exact ⟨w0, w1, w2, w3, w4, rfl⟩
  have hw := fun d (hd : d ∈ tables_1) => atoms_spec (ws := Jvm.Cond.code x code maxLocals ret :: tables_1) hat d (List.mem_cons_of_mem _ hd)
  have hW := fun (i : Nat) (w : Jvm.Cond) (e : tables_1[i]? = some w) => hw w (List.mem_of_getElem? e)
  obtain ⟨hsets, hown0⟩ := atoms_of _ (rest_1_c_eq ▸ (show rest_1_c.before _ s = true from hrest))
  have hfit : Fit s := fun {y c} hc i hi => by
    obtain ⟨ha, rfl⟩ := Array.getElem?_eq_some_iff.mp hc
    have q := List.all_eq_true.mp ((Array.all_eq_true_iff_forall_mem.mp hF) _ (Array.getElem_mem ha)) i (List.mem_range.mpr hi)
    simpa [Array.getElem?_eq_getElem hi] using q
  obtain ⟨i0, ea0⟩ := is_v ha0
  obtain rfl : w0 = (.int i0) := Option.some.inj ea0
  obtain ⟨i1, ea1⟩ := is_v ha1
  obtain rfl : w1 = (.int i1) := Option.some.inj ea1
  obtain ⟨i2, ea2⟩ := is_v ha2
  obtain rfl : w2 = (.int i2) := Option.some.inj ea2
  obtain ⟨i3, ea3⟩ := is_v ha3
  obtain rfl : w3 = (.int i3) := Option.some.inj ea3
  obtain ⟨i4, ea4⟩ := is_v ha4
  obtain rfl : w4 = (.int i4) := Option.some.inj ea4
  have ncs := not_v (Cond.before_iff.mp (hsets _ (List.mem_of_getElem? (i := 2) rfl)))
  obtain ⟨zcs, ecs⟩ := is_v (Cond.before_iff.mp (hsets _ (List.mem_of_getElem? (i := 1) rfl)))
  have hCm : Own.Cmp s := ⟨zcs, Sta.start ecs (Or.inl (hsets _ (List.mem_of_getElem? (i := 0) rfl))), gotF (Cond.eq_ints ecs (Term.int_eval (0))) ncs⟩
  obtain ⟨vsi, esi, rsi⟩ := isR_v (Cond.before_iff.mp (hsets _ (List.mem_of_getElem? (i := 8) rfl)))
  have hSi : Own.Sio s := ⟨vsi, Sta.start esi (Or.inl (hsets _ (List.mem_of_getElem? (i := 7) rfl))), rsi⟩
  have HW : own_Wld s _ := ⟨hw, hCm, hSi⟩
  obtain ⟨n, o, h1, h2, h3, _, L, rfl, ⟨⟨-, rfl⟩, N⟩, hq⟩ := own_law l s _ HW (cw := tables_1) i0 i1 i2 i3 i4 s.heap ⟨Nat.le_refl _, fun _ _ q => q⟩ p e ha hc hk s m _ below hf ((Spec.applies_iff_loose hf).mp happ).1 ⟨rfl, State.Warmed39.refl s, rfl⟩ trivial
  exact ⟨n, _, h1, h2, h3, hpost _ _ _ _ _ _ ⟨Cond.after_iff.mpr rfl, Cond.after_iff.mpr (eq_i res_at (Term.int_eval (1)) rfl), trivial⟩ ⟨hq.1, hq.2.1, hq.2.2.sift fun y hy => Or.inr (N y hy)⟩⟩
theorem main_1_1 : Claimed_1_1 := own_comes fun _ _ _ _ _ _ h hF => ⟨h.1, hF⟩
theorem main_1_2 : Claimed_1_2 := own_comes fun _ _ _ _ _ _ h hF => ⟨h.2.1, hF⟩
end Jvm.Pilot.@@N@@
namespace Jvm.Pilot.@@N@@
open Jvm Jvm.ClassFile Sem Op Lib Jvm.Free Jvm.Stand Jvm.Pilot.@@N@@.Jvm.D
/-! MADE BY PROGRAM (witnessworld.py) out of the Statement's table words and the real class files: 20 classes; the members and pool entries that the words name. The judged class is class 1, her method 2. -/
namespace start1
open Jvm.ClassFile
def u (s : String) : CpInfo := .utf8 (stringToUtf16 s)
/-- a pool by its gaps: so many unusable entries, then the entry; so many at the end -/
def gap : Nat → List CpInfo → List CpInfo
  | 0, r => r
  | n + 1, r => .unusable :: gap n r
def poolList (es : List (Nat × CpInfo)) (last : Nat) : List CpInfo := es.foldr (fun e r => gap e.1 (e.2 :: r)) (gap last [])
def pool (es : List (Nat × CpInfo)) (last : Nat) : Array CpInfo := ⟨poolList es last⟩
def fileOf (pool : Array CpInfo) (this : Nat) (attrs : Array Attribute := #[]) (ms : Array MethodInfo := #[]) (fl : Nat := 33) (sup : Nat := 0) (ifs : Array Nat := #[]) (fds : Array FieldInfo := #[]) : ClassFile where
  minorVersion := 0
  majorVersion := 65
  constantPool := pool
  accessFlags := fl
  thisClass := this
  superClass := sup
  interfaces := ifs
  fields := fds
  methods := ms
  attributes := attrs
def plain (name : String) (sup : Option ClassId) : Class where
  name := name
  kind := .ordinary
  loader := none
  accessFlags := 33
  super := sup
  interfaces := #[]
  cf := none
  fields := #[]
  methods := #[]
  instanceTypes := #[]
  staticTypes := #[]
  resolved := #[]
  callSites := []
  init := .initialized
  statics := none
  mirror := none

def pool0 : Array CpInfo := pool [(5, u "<init>"), (0, u "()V"), (1, .class_ 10), (1, u "java/lang/Object")] 113

def k0c0 : Code := { maxStack := 0, maxLocals := 1, code := object_method_1_code, exceptionTable := #[], attributes := #[] }
def k0m0 : Method := { name := "<init>", desc := "()V", sig := { parameters := [], returnType := none }, accessFlags := 1, code := some k0c0 }
/-- java/lang/Object -/
def k0 : Class := { plain "java/lang/Object" none with
  accessFlags := 33
  interfaces := #[]
  cf := some (fileOf pool0 8 #[] #[{ accessFlags := 1, nameIndex := 5, descriptorIndex := 6, attributes := #[] }] 33 0 #[] #[])
  fields := #[]
  methods := #[k0m0]
  instanceTypes := #[]
  staticTypes := #[]
  resolved := Array.replicate 124 none
  statics := none }

def pool1 : Array CpInfo := pool [(2, .class_ 4), (1, u "java/lang/Object"), (0, u "<init>"), (0, u "()V"), (0, .integer 2147483647), (0, .methodref 9 10), (0, .class_ 11), (0, .nameAndType 12 13), (0, u "com/example/latchkey/latchkey/ApiKeyParsePinLaw"), (0, u "pc"), (0, u "(I)C"), (0, .class_ 15), (0, u "java/lang/String"), (0, .methodref 14 17), (0, .nameAndType 5 18), (0, u "([C)V"), (0, .methodref 20 21), (0, .class_ 22), (0, .nameAndType 23 24), (0, u "com/example/latchkey/latchkey/ApiKey"), (0, u "parse"), (0, u "(Ljava/lang/String;)Lcom/example/latchkey/latchkey/ApiKey;"), (0, .methodref 20 26), (0, .nameAndType 27 28), (0, u "value"), (0, u "()Ljava/lang/String;"), (0, .methodref 14 30), (0, .nameAndType 31 32), (0, u "length"), (0, u "()I"), (0, .methodref 14 34), (0, .nameAndType 35 36), (0, u "equals"), (0, u "(Ljava/lang/Object;)Z"), (2, u "law"), (0, u "(IIIII)Z")] 3

def k1m0 : Method := { name := "<init>", desc := "()V", sig := { parameters := [], returnType := none }, accessFlags := 1, code := none }
def k1c1 : Code := { maxStack := 3, maxLocals := 1, code := method_2_code, exceptionTable := #[], attributes := #[] }
def k1m1 : Method := { name := "pc", desc := "(I)C", sig := { parameters := [.int], returnType := some .char }, accessFlags := 10, code := some k1c1 }
def k1c2 : Code := { maxStack := 3, maxLocals := 9, code := code, exceptionTable := #[], attributes := #[] }
def k1m2 : Method := { name := "law", desc := "(IIIII)Z", sig := { parameters := [.int, .int, .int, .int, .int], returnType := some .boolean }, accessFlags := 9, code := some k1c2 }
/-- com/example/latchkey/latchkey/ApiKeyParsePinLaw -/
def k1 : Class := { plain "com/example/latchkey/latchkey/ApiKeyParsePinLaw" (some 0) with
  accessFlags := 49
  interfaces := #[]
  cf := some (fileOf pool1 9 #[] #[{ accessFlags := 1, nameIndex := 5, descriptorIndex := 6, attributes := #[] }, { accessFlags := 10, nameIndex := 12, descriptorIndex := 13, attributes := #[] }, { accessFlags := 9, nameIndex := 39, descriptorIndex := 40, attributes := #[] }] 49 2 #[] #[])
  fields := #[]
  methods := #[k1m0, k1m1, k1m2]
  instanceTypes := #[]
  staticTypes := #[]
  resolved := Array.replicate 44 none
  statics := none }

def pool2 : Array CpInfo := pool [(1, .class_ 2), (0, u "java/io/Serializable"), (0, .class_ 4), (0, u "java/lang/Object")] 2

/-- java/io/Serializable -/
def k2 : Class := { plain "java/io/Serializable" (some 0) with
  accessFlags := 1537
  interfaces := #[]
  cf := some (fileOf pool2 1 #[] #[] 1537 3 #[] #[])
  fields := #[]
  methods := #[]
  instanceTypes := #[]
  staticTypes := #[]
  resolved := Array.replicate 7 none
  statics := none }

def pool3 : Array CpInfo := pool [(1, .class_ 2), (0, u "java/lang/Comparable"), (0, .class_ 4), (0, u "java/lang/Object")] 7

/-- java/lang/Comparable -/
def k3 : Class := { plain "java/lang/Comparable" (some 0) with
  accessFlags := 1537
  interfaces := #[]
  cf := some (fileOf pool3 1 #[] #[] 1537 3 #[] #[])
  fields := #[]
  methods := #[]
  instanceTypes := #[]
  staticTypes := #[]
  resolved := Array.replicate 12 none
  statics := none }

def pool4 : Array CpInfo := pool [(2, .class_ 4), (1, u "java/lang/CharSequence"), (42, .class_ 48), (0, u "java/lang/CharSequence$1CodePointIterator"), (10, .class_ 60), (0, u "java/lang/CharSequence$1CharIterator"), (5, .class_ 67), (0, u "java/lang/Object")] 63

/-- java/lang/CharSequence -/
def k4 : Class := { plain "java/lang/CharSequence" (some 0) with
  accessFlags := 1537
  interfaces := #[]
  cf := some (fileOf pool4 2 #[.nestMembers #[47, 59]] #[] 1537 66 #[] #[])
  fields := #[]
  methods := #[]
  instanceTypes := #[]
  staticTypes := #[]
  resolved := Array.replicate 131 none
  statics := none }

def pool5 : Array CpInfo := pool [(1, .class_ 2), (0, u "java/lang/constant/Constable"), (0, .class_ 4), (0, u "java/lang/Object")] 6

/-- java/lang/constant/Constable -/
def k5 : Class := { plain "java/lang/constant/Constable" (some 0) with
  accessFlags := 1537
  interfaces := #[]
  cf := some (fileOf pool5 1 #[] #[] 1537 3 #[] #[])
  fields := #[]
  methods := #[]
  instanceTypes := #[]
  staticTypes := #[]
  resolved := Array.replicate 11 none
  statics := none }

def pool6 : Array CpInfo := pool [(1, .class_ 2), (0, u "java/lang/constant/ConstantDesc"), (0, .class_ 4), (0, u "java/lang/Object")] 32

/-- java/lang/constant/ConstantDesc -/
def k6 : Class := { plain "java/lang/constant/ConstantDesc" (some 0) with
  accessFlags := 1537
  interfaces := #[]
  cf := some (fileOf pool6 1 #[] #[] 1537 3 #[] #[])
  fields := #[]
  methods := #[]
  instanceTypes := #[]
  staticTypes := #[]
  resolved := Array.replicate 37 none
  statics := none }

def pool7 : Array CpInfo := pool [(1, .methodref 2 3), (0, .class_ 4), (0, .nameAndType 5 6), (0, u "java/lang/Object"), (0, u "<init>"), (0, u "()V"), (2, .fieldref 10 11), (0, .class_ 12), (0, .nameAndType 13 14), (0, u "java/lang/String"), (0, u "value"), (0, u "[B"), (0, .fieldref 10 16), (0, .nameAndType 17 18), (0, u "coder"), (0, u "B"), (2, u "hash"), (0, u "I"), (2, u "hashIsZero"), (0, u "Z"), (0, .methodref 10 28), (0, .nameAndType 5 29), (0, u "([CIILjava/lang/Void;)V"), (8, .fieldref 10 39), (0, .nameAndType 40 26), (0, u "COMPACT_STRINGS"), (1, .class_ 44), (1, u "java/lang/StringUTF16"), (0, u "compress"), (1, .methodref 42 48), (0, .nameAndType 49 50), (0, u "coderFromArrayLen"), (0, u "([BI)B"), (56, .class_ 109), (1, u "java/lang/StringLatin1"), (32, u "()Z"), (34, .methodref 42 178), (0, .nameAndType 45 179), (0, u "([CII)[B"), (154, u "()I"), (0, .methodref 10 336), (0, .nameAndType 17 337), (0, u "()B"), (25, u "([BI)C"), (27, u "(II)V"), (35, u "(I)C"), (64, .methodref 10 493), (0, .nameAndType 494 142), (0, u "isLatin1"), (0, .methodref 107 496), (0, .nameAndType 497 363), (0, u "charAt"), (3, u "checkIndex"), (5, u "length"), (35, u "equals"), (29, u "(Ljava/lang/Object;)Z"), (1, .class_ 576), (0, u "java/lang/CharSequence"), (22, u "CASE_INSENSITIVE_ORDER"), (0, u "Ljava/util/Comparator;"), (91, u "isEmpty"), (317, u "([C)V"), (42, .fieldref 1054 1055), (0, .class_ 1056), (0, .nameAndType 1057 1058), (0, u "jdk/internal/util/Preconditions"), (0, u "SIOOBE_FORMATTER"), (0, u "Ljava/util/function/BiFunction;"), (0, .methodref 1054 1060), (0, .nameAndType 501 1061), (0, u "(IILjava/util/function/BiFunction;)I"), (39, u "serialPersistentFields"), (0, u "[Ljava/io/ObjectStreamField;"), (0, .class_ 1104), (0, u "java/lang/String$CaseInsensitiveComparator"), (1, .class_ 1107), (0, u "java/io/Serializable"), (0, .class_ 1109), (0, u "java/lang/Comparable"), (0, .class_ 1111), (0, u "java/lang/constant/Constable"), (0, .class_ 1113), (0, u "java/lang/constant/ConstantDesc"), (2, u "serialVersionUID"), (0, u "J"), (3, u "REPL"), (0, u "C"), (2, u "LATIN1"), (1, u "UTF16")] 323

def k7m0 : Method := { name := "<init>", desc := "()V", sig := { parameters := [], returnType := none }, accessFlags := 1, code := none }
def k7c1 : Code := { maxStack := 5, maxLocals := 2, code := jdk_42_method_3_code, exceptionTable := #[], attributes := #[] }
def k7m1 : Method := { name := "<init>", desc := "([C)V", sig := { parameters := [(.array .char)], returnType := none }, accessFlags := 1, code := some k7c1 }
def k7c2 : Code := { maxStack := 2, maxLocals := 1, code := jdk_42_method_54_code, exceptionTable := #[], attributes := #[] }
def k7m2 : Method := { name := "length", desc := "()I", sig := { parameters := [], returnType := some .int }, accessFlags := 1, code := some k7c2 }
def k7c3 : Code := { maxStack := 1, maxLocals := 1, code := jdk_42_method_55_code, exceptionTable := #[], attributes := #[] }
def k7m3 : Method := { name := "isEmpty", desc := "()Z", sig := { parameters := [], returnType := some .boolean }, accessFlags := 1, code := some k7c3 }
def k7c4 : Code := { maxStack := 2, maxLocals := 2, code := jdk_42_method_56_code, exceptionTable := #[], attributes := #[] }
def k7m4 : Method := { name := "charAt", desc := "(I)C", sig := { parameters := [.int], returnType := some .char }, accessFlags := 1, code := some k7c4 }
def k7c5 : Code := { maxStack := 2, maxLocals := 3, code := jdk_42_method_66_code, exceptionTable := #[], attributes := #[] }
def k7m5 : Method := { name := "equals", desc := "(Ljava/lang/Object;)Z", sig := { parameters := [(.object "java/lang/Object")], returnType := some .boolean }, accessFlags := 1, code := some k7c5 }
def k7c6 : Code := { maxStack := 4, maxLocals := 6, code := jdk_42_method_149_code, exceptionTable := #[], attributes := #[] }
def k7m6 : Method := { name := "<init>", desc := "([CIILjava/lang/Void;)V", sig := { parameters := [(.array .char), .int, .int, (.object "java/lang/Void")], returnType := none }, accessFlags := 2, code := some k7c6 }
def k7c7 : Code := { maxStack := 1, maxLocals := 1, code := jdk_42_method_152_code, exceptionTable := #[], attributes := #[] }
def k7m7 : Method := { name := "coder", desc := "()B", sig := { parameters := [], returnType := some .byte }, accessFlags := 0, code := some k7c7 }
def k7c8 : Code := { maxStack := 1, maxLocals := 1, code := jdk_42_method_154_code, exceptionTable := #[], attributes := #[] }
def k7m8 : Method := { name := "isLatin1", desc := "()Z", sig := { parameters := [], returnType := some .boolean }, accessFlags := 0, code := some k7c8 }
def k7c9 : Code := { maxStack := 3, maxLocals := 2, code := jdk_42_method_155_code, exceptionTable := #[], attributes := #[] }
def k7m9 : Method := { name := "checkIndex", desc := "(II)V", sig := { parameters := [.int, .int], returnType := none }, accessFlags := 8, code := some k7c9 }
/-- java/lang/String -/
def k7 : Class := { plain "java/lang/String" (some 0) with
  accessFlags := 49
  interfaces := #[2, 3, 4, 5, 6]
  cf := some (fileOf pool7 10 #[.nestMembers #[1103]] #[{ accessFlags := 1, nameIndex := 5, descriptorIndex := 6, attributes := #[] }, { accessFlags := 1, nameIndex := 5, descriptorIndex := 1010, attributes := #[] }, { accessFlags := 1, nameIndex := 507, descriptorIndex := 334, attributes := #[] }, { accessFlags := 1, nameIndex := 692, descriptorIndex := 142, attributes := #[] }, { accessFlags := 1, nameIndex := 497, descriptorIndex := 427, attributes := #[] }, { accessFlags := 1, nameIndex := 543, descriptorIndex := 573, attributes := #[] }, { accessFlags := 2, nameIndex := 5, descriptorIndex := 29, attributes := #[] }, { accessFlags := 0, nameIndex := 17, descriptorIndex := 337, attributes := #[] }, { accessFlags := 0, nameIndex := 494, descriptorIndex := 142, attributes := #[] }, { accessFlags := 8, nameIndex := 501, descriptorIndex := 391, attributes := #[] }] 49 2 #[1106, 1108, 575, 1110, 1112] #[{ accessFlags := 18, nameIndex := 13, descriptorIndex := 14, attributes := #[] }, { accessFlags := 18, nameIndex := 17, descriptorIndex := 18, attributes := #[] }, { accessFlags := 2, nameIndex := 21, descriptorIndex := 22, attributes := #[] }, { accessFlags := 2, nameIndex := 25, descriptorIndex := 26, attributes := #[] }, { accessFlags := 26, nameIndex := 1116, descriptorIndex := 1117, attributes := #[] }, { accessFlags := 24, nameIndex := 40, descriptorIndex := 26, attributes := #[] }, { accessFlags := 26, nameIndex := 1101, descriptorIndex := 1102, attributes := #[] }, { accessFlags := 26, nameIndex := 1121, descriptorIndex := 1122, attributes := #[] }, { accessFlags := 25, nameIndex := 599, descriptorIndex := 600, attributes := #[] }, { accessFlags := 24, nameIndex := 1125, descriptorIndex := 18, attributes := #[] }, { accessFlags := 24, nameIndex := 1127, descriptorIndex := 18, attributes := #[] }])
  fields := #[{ name := "value", type := (.array .byte), accessFlags := 18, slot := 0, constantValue := 0 }, { name := "coder", type := .byte, accessFlags := 18, slot := 1, constantValue := 0 }, { name := "hash", type := .int, accessFlags := 2, slot := 2, constantValue := 0 }, { name := "hashIsZero", type := .boolean, accessFlags := 2, slot := 3, constantValue := 0 }, { name := "serialVersionUID", type := .long, accessFlags := 26, slot := 0, constantValue := 0 }, { name := "COMPACT_STRINGS", type := .boolean, accessFlags := 24, slot := 1, constantValue := 0 }, { name := "serialPersistentFields", type := (.array (.object "java/io/ObjectStreamField")), accessFlags := 26, slot := 2, constantValue := 0 }, { name := "REPL", type := .char, accessFlags := 26, slot := 3, constantValue := 0 }, { name := "CASE_INSENSITIVE_ORDER", type := (.object "java/util/Comparator"), accessFlags := 25, slot := 4, constantValue := 0 }, { name := "LATIN1", type := .byte, accessFlags := 24, slot := 5, constantValue := 0 }, { name := "UTF16", type := .byte, accessFlags := 24, slot := 6, constantValue := 0 }]
  methods := #[k7m0, k7m1, k7m2, k7m3, k7m4, k7m5, k7m6, k7m7, k7m8, k7m9]
  instanceTypes := #[(.array .byte), .byte, .int, .boolean]
  staticTypes := #[.long, .boolean, (.array (.object "java/io/ObjectStreamField")), .char, (.object "java/util/Comparator"), .byte, .byte]
  resolved := Array.replicate 1451 none
  statics := some 0 }

def pool8 : Array CpInfo := pool [(6, .class_ 8), (1, u "java/lang/Object"), (0, u "<init>"), (0, u "()V"), (1, .class_ 14), (1, u "java/lang/StringUTF16"), (31, u "$assertionsDisabled"), (0, u "Z"), (13, u "HI_BYTE_SHIFT"), (0, u "I"), (2, u "LO_BYTE_SHIFT"), (49, .methodref 12 116), (0, .nameAndType 117 118), (0, u "compress"), (0, u "([CI[BII)I"), (3, u "([CII)[B"), (138, u "coderFromArrayLen"), (0, u "([BI)B"), (106, .class_ 371), (1, u "java/lang/StringUTF16$LinesSpliterator"), (58, u "MAX_LENGTH"), (196, .class_ 628), (0, u "java/lang/StringUTF16$CodePointsSpliterator"), (0, .class_ 630), (0, u "java/lang/StringUTF16$CharsSpliterator")] 4

def k8m0 : Method := { name := "<init>", desc := "()V", sig := { parameters := [], returnType := none }, accessFlags := 0, code := none }
def k8c1 : Code := { maxStack := 2, maxLocals := 2, code := jdk_52_method_15_code, exceptionTable := #[], attributes := #[] }
def k8m1 : Method := { name := "coderFromArrayLen", desc := "([BI)B", sig := { parameters := [(.array .byte), .int], returnType := some .byte }, accessFlags := 8, code := some k8c1 }
def k8c2 : Code := { maxStack := 5, maxLocals := 6, code := jdk_52_method_16_code, exceptionTable := #[], attributes := #[] }
def k8m2 : Method := { name := "compress", desc := "([CII)[B", sig := { parameters := [(.array .char), .int, .int], returnType := some (.array .byte) }, accessFlags := 9, code := some k8c2 }
def k8c3 : Code := { maxStack := 3, maxLocals := 7, code := jdk_52_method_21_code, exceptionTable := #[], attributes := #[] }
def k8m3 : Method := { name := "compress", desc := "([CI[BII)I", sig := { parameters := [(.array .char), .int, (.array .byte), .int, .int], returnType := some .int }, accessFlags := 9, code := some k8c3 }
/-- java/lang/StringUTF16 -/
def k8 : Class := { plain "java/lang/StringUTF16" (some 0) with
  accessFlags := 48
  interfaces := #[]
  cf := some (fileOf pool8 12 #[.nestMembers #[627, 629, 369]] #[{ accessFlags := 0, nameIndex := 9, descriptorIndex := 10, attributes := #[] }, { accessFlags := 8, nameIndex := 261, descriptorIndex := 262, attributes := #[] }, { accessFlags := 9, nameIndex := 117, descriptorIndex := 122, attributes := #[] }, { accessFlags := 9, nameIndex := 117, descriptorIndex := 118, attributes := #[] }] 48 6 #[] #[{ accessFlags := 26, nameIndex := 61, descriptorIndex := 62, attributes := #[] }, { accessFlags := 26, nameIndex := 65, descriptorIndex := 62, attributes := #[] }, { accessFlags := 24, nameIndex := 430, descriptorIndex := 62, attributes := #[] }, { accessFlags := 4120, nameIndex := 46, descriptorIndex := 47, attributes := #[] }])
  fields := #[{ name := "HI_BYTE_SHIFT", type := .int, accessFlags := 26, slot := 0, constantValue := 0 }, { name := "LO_BYTE_SHIFT", type := .int, accessFlags := 26, slot := 1, constantValue := 0 }, { name := "MAX_LENGTH", type := .int, accessFlags := 24, slot := 2, constantValue := 0 }, { name := "$assertionsDisabled", type := .boolean, accessFlags := 4120, slot := 3, constantValue := 0 }]
  methods := #[k8m0, k8m1, k8m2, k8m3]
  instanceTypes := #[]
  staticTypes := #[.int, .int, .int, .boolean]
  resolved := Array.replicate 635 none
  statics := none }

def pool9 : Array CpInfo := pool [(1, .methodref 2 3), (0, .class_ 4), (0, .nameAndType 5 6), (0, u "java/lang/Object"), (0, u "<init>"), (0, u "()V"), (0, .fieldref 8 9), (0, .class_ 10), (0, .nameAndType 11 12), (0, u "com/example/latchkey/latchkey/ApiKey"), (0, u "value"), (0, u "Ljava/lang/String;"), (0, .methodref 14 15), (0, .class_ 16), (0, .nameAndType 17 18), (0, u "java/lang/String"), (0, u "isEmpty"), (0, u "()Z"), (5, .nameAndType 5 25), (0, u "(Ljava/lang/String;)V"), (0, .methodref 14 27), (0, .nameAndType 28 29), (0, u "length"), (0, u "()I"), (2, .methodref 14 33), (0, .nameAndType 34 35), (0, u "charAt"), (0, u "(I)C"), (4, .methodref 8 24), (18, u "MAX_LENGTH"), (0, u "I"), (2, u "FIRST_ALLOWED"), (0, u "C"), (1, u "LAST_ALLOWED"), (3, u "parse"), (0, u "(Ljava/lang/String;)Lcom/example/latchkey/latchkey/ApiKey;"), (1, u "()Ljava/lang/String;")] 20

def k9c0 : Code := { maxStack := 2, maxLocals := 2, code := prog_1_method_1_code, exceptionTable := #[], attributes := #[] }
def k9m0 : Method := { name := "<init>", desc := "(Ljava/lang/String;)V", sig := { parameters := [(.object "java/lang/String")], returnType := none }, accessFlags := 2, code := some k9c0 }
def k9c1 : Code := { maxStack := 4, maxLocals := 3, code := prog_1_method_2_code, exceptionTable := #[], attributes := #[] }
def k9m1 : Method := { name := "parse", desc := "(Ljava/lang/String;)Lcom/example/latchkey/latchkey/ApiKey;", sig := { parameters := [(.object "java/lang/String")], returnType := some (.object "com/example/latchkey/latchkey/ApiKey") }, accessFlags := 8, code := some k9c1 }
def k9c2 : Code := { maxStack := 1, maxLocals := 1, code := prog_1_method_3_code, exceptionTable := #[], attributes := #[] }
def k9m2 : Method := { name := "value", desc := "()Ljava/lang/String;", sig := { parameters := [], returnType := some (.object "java/lang/String") }, accessFlags := 0, code := some k9c2 }
/-- com/example/latchkey/latchkey/ApiKey -/
def k9 : Class := { plain "com/example/latchkey/latchkey/ApiKey" (some 0) with
  accessFlags := 32
  interfaces := #[]
  cf := some (fileOf pool9 8 #[] #[{ accessFlags := 2, nameIndex := 5, descriptorIndex := 25, attributes := #[] }, { accessFlags := 8, nameIndex := 70, descriptorIndex := 71, attributes := #[] }, { accessFlags := 0, nameIndex := 11, descriptorIndex := 73, attributes := #[] }] 32 2 #[] #[{ accessFlags := 24, nameIndex := 59, descriptorIndex := 60, attributes := #[] }, { accessFlags := 26, nameIndex := 63, descriptorIndex := 64, attributes := #[] }, { accessFlags := 26, nameIndex := 66, descriptorIndex := 64, attributes := #[] }, { accessFlags := 18, nameIndex := 11, descriptorIndex := 12, attributes := #[] }])
  fields := #[{ name := "MAX_LENGTH", type := .int, accessFlags := 24, slot := 0, constantValue := 0 }, { name := "FIRST_ALLOWED", type := .char, accessFlags := 26, slot := 1, constantValue := 0 }, { name := "LAST_ALLOWED", type := .char, accessFlags := 26, slot := 2, constantValue := 0 }, { name := "value", type := (.object "java/lang/String"), accessFlags := 18, slot := 0, constantValue := 0 }]
  methods := #[k9m0, k9m1, k9m2]
  instanceTypes := #[(.object "java/lang/String")]
  staticTypes := #[.int, .char, .char]
  resolved := Array.replicate 94 none
  statics := none }

def pool10 : Array CpInfo := pool [(1, .class_ 2), (0, u "java/lang/String"), (1, .class_ 6), (1, u "java/lang/Object"), (0, u "<init>"), (0, u "()V"), (0, .methodref 1 10), (0, .nameAndType 11 12), (0, u "checkIndex"), (0, u "(II)V"), (1, .class_ 16), (1, u "java/lang/StringLatin1"), (36, u "([BI)C"), (67, u "$assertionsDisabled"), (0, u "Z"), (98, .class_ 223), (1, u "java/lang/StringLatin1$LinesSpliterator"), (28, u "charAt"), (137, .class_ 391), (0, u "java/lang/StringLatin1$CharsSpliterator")] 3

def k10m0 : Method := { name := "<init>", desc := "()V", sig := { parameters := [], returnType := none }, accessFlags := 0, code := none }
def k10c1 : Code := { maxStack := 2, maxLocals := 2, code := jdk_43_method_2_code, exceptionTable := #[], attributes := #[] }
def k10m1 : Method := { name := "charAt", desc := "([BI)C", sig := { parameters := [(.array .byte), .int], returnType := some .char }, accessFlags := 9, code := some k10c1 }
/-- java/lang/StringLatin1 -/
def k10 : Class := { plain "java/lang/StringLatin1" (some 0) with
  accessFlags := 48
  interfaces := #[]
  cf := some (fileOf pool10 14 #[.nestMembers #[390, 221]] #[{ accessFlags := 0, nameIndex := 7, descriptorIndex := 8, attributes := #[] }, { accessFlags := 9, nameIndex := 252, descriptorIndex := 53, attributes := #[] }] 48 4 #[] #[{ accessFlags := 4120, nameIndex := 121, descriptorIndex := 122, attributes := #[] }])
  fields := #[{ name := "$assertionsDisabled", type := .boolean, accessFlags := 4120, slot := 0, constantValue := 0 }]
  methods := #[k10m0, k10m1]
  instanceTypes := #[]
  staticTypes := #[.boolean]
  resolved := Array.replicate 395 none
  statics := none }

def pool11 : Array CpInfo := pool [(2, .class_ 4), (1, u "java/lang/Object"), (0, u "<init>"), (0, u "()V"), (17, .class_ 26), (1, u "jdk/internal/util/Preconditions"), (6, u "checkIndex"), (21, .class_ 56), (0, u "jdk/internal/util/Preconditions$4"), (57, .class_ 115), (0, u "jdk/internal/util/Preconditions$1"), (7, u "SIOOBE_FORMATTER"), (0, u "Ljava/util/function/BiFunction;"), (0, .class_ 126), (0, u "jdk/internal/util/Preconditions$2"), (3, u "AIOOBE_FORMATTER"), (0, .class_ 132), (0, u "jdk/internal/util/Preconditions$3"), (3, u "IOOBE_FORMATTER"), (41, u "(IILjava/util/function/BiFunction;)I")] 15

def k11m0 : Method := { name := "<init>", desc := "()V", sig := { parameters := [], returnType := none }, accessFlags := 1, code := none }
def k11c1 : Code := { maxStack := 3, maxLocals := 3, code := jdk_41_method_11_code, exceptionTable := #[], attributes := #[] }
def k11m1 : Method := { name := "checkIndex", desc := "(IILjava/util/function/BiFunction;)I", sig := { parameters := [.int, .int, (.object "java/util/function/BiFunction")], returnType := some .int }, accessFlags := 9, code := some k11c1 }
/-- jdk/internal/util/Preconditions -/
def k11 : Class := { plain "jdk/internal/util/Preconditions" (some 0) with
  accessFlags := 33
  interfaces := #[]
  cf := some (fileOf pool11 24 #[.nestMembers #[55, 131, 125, 114]] #[{ accessFlags := 1, nameIndex := 5, descriptorIndex := 6, attributes := #[] }, { accessFlags := 9, nameIndex := 33, descriptorIndex := 178, attributes := #[] }] 33 2 #[] #[{ accessFlags := 25, nameIndex := 123, descriptorIndex := 124, attributes := #[] }, { accessFlags := 25, nameIndex := 130, descriptorIndex := 124, attributes := #[] }, { accessFlags := 25, nameIndex := 136, descriptorIndex := 124, attributes := #[] }])
  fields := #[{ name := "SIOOBE_FORMATTER", type := (.object "java/util/function/BiFunction"), accessFlags := 25, slot := 0, constantValue := 0 }, { name := "AIOOBE_FORMATTER", type := (.object "java/util/function/BiFunction"), accessFlags := 25, slot := 1, constantValue := 0 }, { name := "IOOBE_FORMATTER", type := (.object "java/util/function/BiFunction"), accessFlags := 25, slot := 2, constantValue := 0 }]
  methods := #[k11m0, k11m1]
  instanceTypes := #[]
  staticTypes := #[(.object "java/util/function/BiFunction"), (.object "java/util/function/BiFunction"), (.object "java/util/function/BiFunction")]
  resolved := Array.replicate 194 none
  statics := some 1 }

def pool12 : Array CpInfo := pool [(9, u "<init>"), (6, .class_ 18), (1, u "java/lang/Object"), (0, u "()V"), (1, .class_ 23), (1, u "jdk/internal/util/ArraysSupport"), (0, u "LOG2_ARRAY_LONG_INDEX_SCALE"), (0, u "I"), (2, u "U"), (0, u "Ljdk/internal/misc/Unsafe;"), (8, u "BIG_ENDIAN"), (0, u "Z"), (8, u "LOG2_BYTE_BIT_SIZE"), (4, u "LOG2_ARRAY_INT_INDEX_SCALE"), (54, u "JLA"), (0, u "Ljdk/internal/access/JavaLangAccess;"), (11, u "LOG2_ARRAY_BOOLEAN_INDEX_SCALE"), (9, u "LOG2_ARRAY_BYTE_INDEX_SCALE"), (5, u "LOG2_ARRAY_CHAR_INDEX_SCALE"), (5, u "LOG2_ARRAY_SHORT_INDEX_SCALE"), (18, u "LOG2_ARRAY_FLOAT_INDEX_SCALE"), (24, u "LOG2_ARRAY_DOUBLE_INDEX_SCALE"), (89, u "T_BOOLEAN"), (2, u "T_CHAR"), (1, u "T_FLOAT"), (1, u "T_DOUBLE"), (1, u "T_BYTE"), (1, u "T_SHORT"), (1, u "T_INT"), (1, u "T_LONG"), (1, u "SOFT_MAX_ARRAY_LENGTH")] 83

def k12m0 : Method := { name := "<init>", desc := "()V", sig := { parameters := [], returnType := none }, accessFlags := 2, code := none }
/-- jdk/internal/util/ArraysSupport -/
def k12 : Class := { plain "jdk/internal/util/ArraysSupport" (some 0) with
  accessFlags := 33
  interfaces := #[]
  cf := some (fileOf pool12 21 #[] #[{ accessFlags := 2, nameIndex := 9, descriptorIndex := 19, attributes := #[] }] 33 16 #[] #[{ accessFlags := 24, nameIndex := 28, descriptorIndex := 29, attributes := #[] }, { accessFlags := 26, nameIndex := 38, descriptorIndex := 39, attributes := #[] }, { accessFlags := 25, nameIndex := 121, descriptorIndex := 25, attributes := #[] }, { accessFlags := 25, nameIndex := 131, descriptorIndex := 25, attributes := #[] }, { accessFlags := 25, nameIndex := 137, descriptorIndex := 25, attributes := #[] }, { accessFlags := 25, nameIndex := 143, descriptorIndex := 25, attributes := #[] }, { accessFlags := 25, nameIndex := 53, descriptorIndex := 25, attributes := #[] }, { accessFlags := 25, nameIndex := 24, descriptorIndex := 25, attributes := #[] }, { accessFlags := 25, nameIndex := 162, descriptorIndex := 25, attributes := #[] }, { accessFlags := 25, nameIndex := 187, descriptorIndex := 25, attributes := #[] }, { accessFlags := 26, nameIndex := 48, descriptorIndex := 25, attributes := #[] }, { accessFlags := 25, nameIndex := 277, descriptorIndex := 25, attributes := #[] }, { accessFlags := 25, nameIndex := 280, descriptorIndex := 25, attributes := #[] }, { accessFlags := 25, nameIndex := 282, descriptorIndex := 25, attributes := #[] }, { accessFlags := 25, nameIndex := 284, descriptorIndex := 25, attributes := #[] }, { accessFlags := 25, nameIndex := 286, descriptorIndex := 25, attributes := #[] }, { accessFlags := 25, nameIndex := 288, descriptorIndex := 25, attributes := #[] }, { accessFlags := 25, nameIndex := 290, descriptorIndex := 25, attributes := #[] }, { accessFlags := 25, nameIndex := 292, descriptorIndex := 25, attributes := #[] }, { accessFlags := 26, nameIndex := 108, descriptorIndex := 109, attributes := #[] }, { accessFlags := 25, nameIndex := 294, descriptorIndex := 25, attributes := #[] }])
  fields := #[{ name := "U", type := (.object "jdk/internal/misc/Unsafe"), accessFlags := 24, slot := 0, constantValue := 0 }, { name := "BIG_ENDIAN", type := .boolean, accessFlags := 26, slot := 1, constantValue := 0 }, { name := "LOG2_ARRAY_BOOLEAN_INDEX_SCALE", type := .int, accessFlags := 25, slot := 2, constantValue := 0 }, { name := "LOG2_ARRAY_BYTE_INDEX_SCALE", type := .int, accessFlags := 25, slot := 3, constantValue := 0 }, { name := "LOG2_ARRAY_CHAR_INDEX_SCALE", type := .int, accessFlags := 25, slot := 4, constantValue := 0 }, { name := "LOG2_ARRAY_SHORT_INDEX_SCALE", type := .int, accessFlags := 25, slot := 5, constantValue := 0 }, { name := "LOG2_ARRAY_INT_INDEX_SCALE", type := .int, accessFlags := 25, slot := 6, constantValue := 0 }, { name := "LOG2_ARRAY_LONG_INDEX_SCALE", type := .int, accessFlags := 25, slot := 7, constantValue := 0 }, { name := "LOG2_ARRAY_FLOAT_INDEX_SCALE", type := .int, accessFlags := 25, slot := 8, constantValue := 0 }, { name := "LOG2_ARRAY_DOUBLE_INDEX_SCALE", type := .int, accessFlags := 25, slot := 9, constantValue := 0 }, { name := "LOG2_BYTE_BIT_SIZE", type := .int, accessFlags := 26, slot := 10, constantValue := 0 }, { name := "T_BOOLEAN", type := .int, accessFlags := 25, slot := 11, constantValue := 0 }, { name := "T_CHAR", type := .int, accessFlags := 25, slot := 12, constantValue := 0 }, { name := "T_FLOAT", type := .int, accessFlags := 25, slot := 13, constantValue := 0 }, { name := "T_DOUBLE", type := .int, accessFlags := 25, slot := 14, constantValue := 0 }, { name := "T_BYTE", type := .int, accessFlags := 25, slot := 15, constantValue := 0 }, { name := "T_SHORT", type := .int, accessFlags := 25, slot := 16, constantValue := 0 }, { name := "T_INT", type := .int, accessFlags := 25, slot := 17, constantValue := 0 }, { name := "T_LONG", type := .int, accessFlags := 25, slot := 18, constantValue := 0 }, { name := "JLA", type := (.object "jdk/internal/access/JavaLangAccess"), accessFlags := 26, slot := 19, constantValue := 0 }, { name := "SOFT_MAX_ARRAY_LENGTH", type := .int, accessFlags := 25, slot := 20, constantValue := 0 }]
  methods := #[k12m0]
  instanceTypes := #[]
  staticTypes := #[(.object "jdk/internal/misc/Unsafe"), .boolean, .int, .int, .int, .int, .int, .int, .int, .int, .int, .int, .int, .int, .int, .int, .int, .int, .int, (.object "jdk/internal/access/JavaLangAccess"), .int]
  resolved := Array.replicate 378 none
  statics := none }

def pool13 : Array CpInfo := pool [(1, u "java/lang/Cloneable"), (0, .class_ 1), (0, u "java/lang/Object"), (0, .class_ 3)] 3

/-- java/lang/Cloneable -/
def k13 : Class := { plain "java/lang/Cloneable" (some 0) with
  accessFlags := 1537
  interfaces := #[]
  cf := some (fileOf pool13 2 #[] #[] 1537 4 #[] #[])
  fields := #[]
  methods := #[]
  instanceTypes := #[]
  staticTypes := #[]
  resolved := Array.replicate 8 none
  statics := none }

/-- the primitive byte -/
def k14 : Class := { plain "byte" none with kind := .primitive 'B', accessFlags := 0x411 }
/-- [B -/
def k15 : Class := { plain "[B" (some 0) with kind := .array 14 .byte, interfaces := #[13, 2], accessFlags := 1041 }

/-- the primitive char -/
def k16 : Class := { plain "char" none with kind := .primitive 'C', accessFlags := 0x411 }
/-- [C -/
def k17 : Class := { plain "[C" (some 0) with kind := .array 16 .char, interfaces := #[13, 2], accessFlags := 1041 }

/-- the primitive int -/
def k18 : Class := { plain "int" none with kind := .primitive 'I', accessFlags := 0x411 }
/-- [I -/
def k19 : Class := { plain "[I" (some 0) with kind := .array 18 .int, interfaces := #[13, 2], accessFlags := 1041 }

def heap : Heap := #[{ cls := 7, slots := #[.long 0, .int 1, .null, .int 0, .null, .int 0, .int 0], vm := .statics 7 },
  { cls := 11, slots := #[.null, .null, .null], vm := .statics 11 }]
def classes : Array Class := #[k0, k1, k2, k3, k4, k5, k6, k7, k8, k9, k10, k11, k12, k13, k14, k15, k16, k17, k18, k19]
def interned : List (Array UInt16 × Addr) := []
def slotsUsed : Nat := 10
def theMethod : MethodId := ⟨1, 2⟩
def args0 : Array Value := #[.int 5, .int 1, .int 3, .int 4, .int 2]
def aboutOver (below : List Frame) : State where
  vm := { classes := classes, interned := interned.toArray }
  heap := heap
  slotsUsed := slotsUsed
  threads := #[{ frames := .invoking theMethod args0 :: below }]
def below0 : List Frame := [.native { method := ⟨0, 0⟩, args := #[] }]
def about1 : State := aboutOver below0
def p0 : Program := .bare "" "" ""
def e0 : Env := launch0.env 0 0 0
theorem w_frames : about1.frames = Frame.invoking theMethod args0 :: below0 := rfl
set_option maxRecDepth 65536 in
theorem w_args : argsFit about1.vm theMethod args0 = true := by decide +kernel
set_option maxRecDepth 65536 in
theorem w_heap : heapFits about1 = true := by decide +kernel
set_option maxRecDepth 65536 in
theorem w_runnable : about1.curStatus? = some .runnable := by decide +kernel
set_option maxRecDepth 65536 in
theorem w_alone : about1.alone = true := by decide +kernel
set_option maxRecDepth 65536 in
theorem w_named : about1.methodNamed? x = some theMethod := by decide +kernel
set_option maxRecDepth 65536 in
theorem w_hears : about1.hears theMethod below0 = true := by decide +kernel
set_option maxRecDepth 65536 in
theorem w_ripe : about1.ripe theMethod args0 below0 = true := by decide +kernel
theorem w_running : about1.status = .running := rfl
set_option maxRecDepth 65536 in
theorem w_room : about1.hasRoom e0.platform room_1 = true :=
  launch0.hasRoom_least _ room_1 (by decide +kernel) (by decide +kernel) (by decide +kernel) (by decide +kernel) (by decide +kernel) (by decide +kernel)
theorem allAtoms_all (ts : List Jvm.Cond) (a : Array Jvm.Value) (st : Jvm.State) : (allAtoms ts).before a st = ts.all (fun c => c.before a st) := by
  induction ts with
  | nil => rfl
  | cons c t ih =>
    show (Jvm.Cond.and c (allAtoms t)).before a st = _
    rw [Jvm.Cond.before_and, ih, List.all_cons]
def words1 : List Jvm.Cond := Jvm.Cond.code x code maxLocals ret :: tables_1
/-- a 'code' word, met by the world's own term for the bytes: nothing is compared byte by byte -/
theorem code_word {y : MethodName} {bytes : ByteArray} {mx : Nat} {rt : Option FieldType} {a : Array Value} {s : State} {m : MethodId} {meth : Method} {c : Code} (h1 : s.methodNamed? y = some m) (h2 : s.vm.method? m = some meth) (h3 : meth.code = some c) (h4 : c.code = bytes)
    (h5 : (c.maxLocals == mx && c.exceptionTable.isEmpty && decide (c.maxStack ≤ mostOperands) && decide (meth.sig.returnType = rt) && !meth.locks && decide (parseMethodDescriptor y.desc = some meth.sig)) = true) : (Jvm.Cond.code y bytes mx rt).before a s = true := by
  simp only [Bool.and_eq_true, beq_iff_eq, Bool.not_eq_true', decide_eq_true_eq] at h5
  obtain ⟨⟨⟨⟨⟨g1, g2⟩, g3⟩, g4⟩, g5⟩, g6⟩ := h5
  simp [Cond.before, Cond.holds, Cond.value, h1, h2, h3, h4, g1, g2, g3, g4, g5, g6]
def isCode : Jvm.Cond → Bool
  | .code _ _ _ _ => true
  | _ => false
theorem all_split {L : List Jvm.Cond} {P : Jvm.Cond → Bool} (h1 : L.all (fun c => isCode c || P c) = true) (h2 : ∀ c ∈ L.filter isCode, P c = true) : L.all P = true := by
  refine List.all_eq_true.mpr fun c hc => ?_
  have h := List.all_eq_true.mp h1 c hc
  rcases Bool.eq_false_or_eq_true (isCode c) with hi | hi
  · exact h2 c (List.mem_filter.mpr ⟨hc, hi⟩)
  · simpa [hi] using h
set_option maxRecDepth 65536 in
theorem w_c0 : (Jvm.Cond.code x code maxLocals ret).before args0 about1 = true := code_word (m := ⟨1, 2⟩) (meth := k1m2) (c := k1c2) (by decide +kernel) rfl rfl rfl (by decide +kernel)
set_option maxRecDepth 65536 in
theorem w_c1 : (Jvm.Cond.code ({ cls := "com/example/latchkey/latchkey/ApiKeyParsePinLaw", name := "pc", desc := "(I)C" } : Jvm.MethodName) method_2_code (1 : Nat) (Option.some Jvm.ClassFile.FieldType.char)).before args0 about1 = true := code_word (m := ⟨1, 1⟩) (meth := k1m1) (c := k1c1) (by decide +kernel) rfl rfl rfl (by decide +kernel)
set_option maxRecDepth 65536 in
theorem w_c2 : (Jvm.Cond.code ({ cls := "java/lang/String", name := "<init>", desc := "([C)V" } : Jvm.MethodName) jdk_42_method_3_code (2 : Nat) (Option.none : Option Jvm.ClassFile.FieldType)).before args0 about1 = true := code_word (m := ⟨7, 1⟩) (meth := k7m1) (c := k7c1) (by decide +kernel) rfl rfl rfl (by decide +kernel)
set_option maxRecDepth 65536 in
theorem w_c3 : (Jvm.Cond.code ({ cls := "java/lang/String", name := "<init>", desc := "([CIILjava/lang/Void;)V" } : Jvm.MethodName) jdk_42_method_149_code (6 : Nat) (Option.none : Option Jvm.ClassFile.FieldType)).before args0 about1 = true := code_word (m := ⟨7, 6⟩) (meth := k7m6) (c := k7c6) (by decide +kernel) rfl rfl rfl (by decide +kernel)
set_option maxRecDepth 65536 in
theorem w_c4 : (Jvm.Cond.code ({ cls := "java/lang/Object", name := "<init>", desc := "()V" } : Jvm.MethodName) object_method_1_code (1 : Nat) (Option.none : Option Jvm.ClassFile.FieldType)).before args0 about1 = true := code_word (m := ⟨0, 0⟩) (meth := k0m0) (c := k0c0) (by decide +kernel) rfl rfl rfl (by decide +kernel)
set_option maxRecDepth 65536 in
theorem w_c5 : (Jvm.Cond.code ({ cls := "java/lang/StringUTF16", name := "compress", desc := "([CII)[B" } : Jvm.MethodName) jdk_52_method_16_code (6 : Nat) (Option.some (Jvm.ClassFile.FieldType.array Jvm.ClassFile.FieldType.byte))).before args0 about1 = true := code_word (m := ⟨8, 2⟩) (meth := k8m2) (c := k8c2) (by decide +kernel) rfl rfl rfl (by decide +kernel)
set_option maxRecDepth 65536 in
theorem w_c6 : (Jvm.Cond.code ({ cls := "java/lang/StringUTF16", name := "compress", desc := "([CI[BII)I" } : Jvm.MethodName) jdk_52_method_21_code (7 : Nat) (Option.some Jvm.ClassFile.FieldType.int)).before args0 about1 = true := code_word (m := ⟨8, 3⟩) (meth := k8m3) (c := k8c3) (by decide +kernel) rfl rfl rfl (by decide +kernel)
set_option maxRecDepth 65536 in
theorem w_c7 : (Jvm.Cond.code ({ cls := "java/lang/StringUTF16", name := "coderFromArrayLen", desc := "([BI)B" } : Jvm.MethodName) jdk_52_method_15_code (2 : Nat) (Option.some Jvm.ClassFile.FieldType.byte)).before args0 about1 = true := code_word (m := ⟨8, 1⟩) (meth := k8m1) (c := k8c1) (by decide +kernel) rfl rfl rfl (by decide +kernel)
set_option maxRecDepth 65536 in
theorem w_c8 : (Jvm.Cond.code ({ cls := "com/example/latchkey/latchkey/ApiKey", name := "parse", desc := "(Ljava/lang/String;)Lcom/example/latchkey/latchkey/ApiKey;" } : Jvm.MethodName) prog_1_method_2_code (3 : Nat) (Option.some (Jvm.ClassFile.FieldType.object "com/example/latchkey/latchkey/ApiKey"))).before args0 about1 = true := code_word (m := ⟨9, 1⟩) (meth := k9m1) (c := k9c1) (by decide +kernel) rfl rfl rfl (by decide +kernel)
set_option maxRecDepth 65536 in
theorem w_c9 : (Jvm.Cond.code ({ cls := "java/lang/String", name := "isEmpty", desc := "()Z" } : Jvm.MethodName) jdk_42_method_55_code (1 : Nat) (Option.some Jvm.ClassFile.FieldType.boolean)).before args0 about1 = true := code_word (m := ⟨7, 3⟩) (meth := k7m3) (c := k7c3) (by decide +kernel) rfl rfl rfl (by decide +kernel)
set_option maxRecDepth 65536 in
theorem w_c10 : (Jvm.Cond.code ({ cls := "java/lang/String", name := "length", desc := "()I" } : Jvm.MethodName) jdk_42_method_54_code (1 : Nat) (Option.some Jvm.ClassFile.FieldType.int)).before args0 about1 = true := code_word (m := ⟨7, 2⟩) (meth := k7m2) (c := k7c2) (by decide +kernel) rfl rfl rfl (by decide +kernel)
set_option maxRecDepth 65536 in
theorem w_c11 : (Jvm.Cond.code ({ cls := "java/lang/String", name := "coder", desc := "()B" } : Jvm.MethodName) jdk_42_method_152_code (1 : Nat) (Option.some Jvm.ClassFile.FieldType.byte)).before args0 about1 = true := code_word (m := ⟨7, 7⟩) (meth := k7m7) (c := k7c7) (by decide +kernel) rfl rfl rfl (by decide +kernel)
set_option maxRecDepth 65536 in
theorem w_c12 : (Jvm.Cond.code ({ cls := "java/lang/String", name := "charAt", desc := "(I)C" } : Jvm.MethodName) jdk_42_method_56_code (2 : Nat) (Option.some Jvm.ClassFile.FieldType.char)).before args0 about1 = true := code_word (m := ⟨7, 4⟩) (meth := k7m4) (c := k7c4) (by decide +kernel) rfl rfl rfl (by decide +kernel)
set_option maxRecDepth 65536 in
theorem w_c13 : (Jvm.Cond.code ({ cls := "java/lang/String", name := "isLatin1", desc := "()Z" } : Jvm.MethodName) jdk_42_method_154_code (1 : Nat) (Option.some Jvm.ClassFile.FieldType.boolean)).before args0 about1 = true := code_word (m := ⟨7, 8⟩) (meth := k7m8) (c := k7c8) (by decide +kernel) rfl rfl rfl (by decide +kernel)
set_option maxRecDepth 65536 in
theorem w_c14 : (Jvm.Cond.code ({ cls := "java/lang/StringLatin1", name := "charAt", desc := "([BI)C" } : Jvm.MethodName) jdk_43_method_2_code (2 : Nat) (Option.some Jvm.ClassFile.FieldType.char)).before args0 about1 = true := code_word (m := ⟨10, 1⟩) (meth := k10m1) (c := k10c1) (by decide +kernel) rfl rfl rfl (by decide +kernel)
set_option maxRecDepth 65536 in
theorem w_c15 : (Jvm.Cond.code ({ cls := "java/lang/String", name := "checkIndex", desc := "(II)V" } : Jvm.MethodName) jdk_42_method_155_code (2 : Nat) (Option.none : Option Jvm.ClassFile.FieldType)).before args0 about1 = true := code_word (m := ⟨7, 9⟩) (meth := k7m9) (c := k7c9) (by decide +kernel) rfl rfl rfl (by decide +kernel)
set_option maxRecDepth 65536 in
theorem w_c16 : (Jvm.Cond.code ({ cls := "jdk/internal/util/Preconditions", name := "checkIndex", desc := "(IILjava/util/function/BiFunction;)I" } : Jvm.MethodName) jdk_41_method_11_code (3 : Nat) (Option.some Jvm.ClassFile.FieldType.int)).before args0 about1 = true := code_word (m := ⟨11, 1⟩) (meth := k11m1) (c := k11c1) (by decide +kernel) rfl rfl rfl (by decide +kernel)
set_option maxRecDepth 65536 in
theorem w_c17 : (Jvm.Cond.code ({ cls := "com/example/latchkey/latchkey/ApiKey", name := "<init>", desc := "(Ljava/lang/String;)V" } : Jvm.MethodName) prog_1_method_1_code (2 : Nat) (Option.none : Option Jvm.ClassFile.FieldType)).before args0 about1 = true := code_word (m := ⟨9, 0⟩) (meth := k9m0) (c := k9c0) (by decide +kernel) rfl rfl rfl (by decide +kernel)
set_option maxRecDepth 65536 in
theorem w_c18 : (Jvm.Cond.code ({ cls := "com/example/latchkey/latchkey/ApiKey", name := "value", desc := "()Ljava/lang/String;" } : Jvm.MethodName) prog_1_method_3_code (1 : Nat) (Option.some (Jvm.ClassFile.FieldType.object "java/lang/String"))).before args0 about1 = true := code_word (m := ⟨9, 2⟩) (meth := k9m2) (c := k9c2) (by decide +kernel) rfl rfl rfl (by decide +kernel)
set_option maxRecDepth 65536 in
theorem w_c19 : (Jvm.Cond.code ({ cls := "java/lang/String", name := "equals", desc := "(Ljava/lang/Object;)Z" } : Jvm.MethodName) jdk_42_method_66_code (3 : Nat) (Option.some Jvm.ClassFile.FieldType.boolean)).before args0 about1 = true := code_word (m := ⟨7, 5⟩) (meth := k7m5) (c := k7c5) (by decide +kernel) rfl rfl rfl (by decide +kernel)
def codes1 : List Jvm.Cond := [Jvm.Cond.code x code maxLocals ret, Jvm.Cond.code ({ cls := "com/example/latchkey/latchkey/ApiKeyParsePinLaw", name := "pc", desc := "(I)C" } : Jvm.MethodName) method_2_code (1 : Nat) (Option.some Jvm.ClassFile.FieldType.char), Jvm.Cond.code ({ cls := "java/lang/String", name := "<init>", desc := "([C)V" } : Jvm.MethodName) jdk_42_method_3_code (2 : Nat) (Option.none : Option Jvm.ClassFile.FieldType), Jvm.Cond.code ({ cls := "java/lang/String", name := "<init>", desc := "([CIILjava/lang/Void;)V" } : Jvm.MethodName) jdk_42_method_149_code (6 : Nat) (Option.none : Option Jvm.ClassFile.FieldType), Jvm.Cond.code ({ cls := "java/lang/Object", name := "<init>", desc := "()V" } : Jvm.MethodName) object_method_1_code (1 : Nat) (Option.none : Option Jvm.ClassFile.FieldType), Jvm.Cond.code ({ cls := "java/lang/StringUTF16", name := "compress", desc := "([CII)[B" } : Jvm.MethodName) jdk_52_method_16_code (6 : Nat) (Option.some (Jvm.ClassFile.FieldType.array Jvm.ClassFile.FieldType.byte)), Jvm.Cond.code ({ cls := "java/lang/StringUTF16", name := "compress", desc := "([CI[BII)I" } : Jvm.MethodName) jdk_52_method_21_code (7 : Nat) (Option.some Jvm.ClassFile.FieldType.int), Jvm.Cond.code ({ cls := "java/lang/StringUTF16", name := "coderFromArrayLen", desc := "([BI)B" } : Jvm.MethodName) jdk_52_method_15_code (2 : Nat) (Option.some Jvm.ClassFile.FieldType.byte), Jvm.Cond.code ({ cls := "com/example/latchkey/latchkey/ApiKey", name := "parse", desc := "(Ljava/lang/String;)Lcom/example/latchkey/latchkey/ApiKey;" } : Jvm.MethodName) prog_1_method_2_code (3 : Nat) (Option.some (Jvm.ClassFile.FieldType.object "com/example/latchkey/latchkey/ApiKey")), Jvm.Cond.code ({ cls := "java/lang/String", name := "isEmpty", desc := "()Z" } : Jvm.MethodName) jdk_42_method_55_code (1 : Nat) (Option.some Jvm.ClassFile.FieldType.boolean), Jvm.Cond.code ({ cls := "java/lang/String", name := "length", desc := "()I" } : Jvm.MethodName) jdk_42_method_54_code (1 : Nat) (Option.some Jvm.ClassFile.FieldType.int), Jvm.Cond.code ({ cls := "java/lang/String", name := "coder", desc := "()B" } : Jvm.MethodName) jdk_42_method_152_code (1 : Nat) (Option.some Jvm.ClassFile.FieldType.byte), Jvm.Cond.code ({ cls := "java/lang/String", name := "charAt", desc := "(I)C" } : Jvm.MethodName) jdk_42_method_56_code (2 : Nat) (Option.some Jvm.ClassFile.FieldType.char), Jvm.Cond.code ({ cls := "java/lang/String", name := "isLatin1", desc := "()Z" } : Jvm.MethodName) jdk_42_method_154_code (1 : Nat) (Option.some Jvm.ClassFile.FieldType.boolean), Jvm.Cond.code ({ cls := "java/lang/StringLatin1", name := "charAt", desc := "([BI)C" } : Jvm.MethodName) jdk_43_method_2_code (2 : Nat) (Option.some Jvm.ClassFile.FieldType.char), Jvm.Cond.code ({ cls := "java/lang/String", name := "checkIndex", desc := "(II)V" } : Jvm.MethodName) jdk_42_method_155_code (2 : Nat) (Option.none : Option Jvm.ClassFile.FieldType), Jvm.Cond.code ({ cls := "jdk/internal/util/Preconditions", name := "checkIndex", desc := "(IILjava/util/function/BiFunction;)I" } : Jvm.MethodName) jdk_41_method_11_code (3 : Nat) (Option.some Jvm.ClassFile.FieldType.int), Jvm.Cond.code ({ cls := "com/example/latchkey/latchkey/ApiKey", name := "<init>", desc := "(Ljava/lang/String;)V" } : Jvm.MethodName) prog_1_method_1_code (2 : Nat) (Option.none : Option Jvm.ClassFile.FieldType), Jvm.Cond.code ({ cls := "com/example/latchkey/latchkey/ApiKey", name := "value", desc := "()Ljava/lang/String;" } : Jvm.MethodName) prog_1_method_3_code (1 : Nat) (Option.some (Jvm.ClassFile.FieldType.object "java/lang/String")), Jvm.Cond.code ({ cls := "java/lang/String", name := "equals", desc := "(Ljava/lang/Object;)Z" } : Jvm.MethodName) jdk_42_method_66_code (3 : Nat) (Option.some Jvm.ClassFile.FieldType.boolean)]
set_option maxRecDepth 65536 in
theorem codes_eq : words1.filter isCode = codes1 := rfl
theorem w_codes : ∀ c ∈ words1.filter isCode, c.before args0 about1 = true := by
  rw [codes_eq]
  intro c hc
  simp only [codes1, List.mem_cons, List.not_mem_nil, or_false] at hc
  rcases hc with rfl | rfl | rfl | rfl | rfl | rfl | rfl | rfl | rfl | rfl | rfl | rfl | rfl | rfl | rfl | rfl | rfl | rfl | rfl | rfl
  · exact w_c0
  · exact w_c1
  · exact w_c2
  · exact w_c3
  · exact w_c4
  · exact w_c5
  · exact w_c6
  · exact w_c7
  · exact w_c8
  · exact w_c9
  · exact w_c10
  · exact w_c11
  · exact w_c12
  · exact w_c13
  · exact w_c14
  · exact w_c15
  · exact w_c16
  · exact w_c17
  · exact w_c18
  · exact w_c19
set_option maxRecDepth 65536 in
theorem w_t1 : (words1.take 24).all (fun c => isCode c || c.before args0 about1) = true := by decide +kernel
set_option maxRecDepth 65536 in
theorem w_t2 : ((words1.drop 24).take 24).all (fun c => isCode c || c.before args0 about1) = true := by decide +kernel
set_option maxRecDepth 65536 in
theorem w_t3 : (((words1.drop 24).drop 24).take 24).all (fun c => isCode c || c.before args0 about1) = true := by decide +kernel
set_option maxRecDepth 65536 in
theorem w_t4 : (((words1.drop 24).drop 24).drop 24).all (fun c => isCode c || c.before args0 about1) = true := by decide +kernel
theorem w_tables : (allAtoms (Jvm.Cond.code x code maxLocals ret :: tables_1)).before args0 about1 = true := by
  rw [allAtoms_all]
  show words1.all (fun c => c.before args0 about1) = true
  refine all_split ?_ w_codes
  rw [← List.take_append_drop 24 words1, List.all_append, w_t1, ← List.take_append_drop 24 (words1.drop 24), List.all_append, w_t2, ← List.take_append_drop 24 ((words1.drop 24).drop 24), List.all_append, w_t3, w_t4]
  rfl
set_option maxRecDepth 65536 in
theorem w_rest : rest_1_c.before args0 about1 = true := by decide +kernel
set_option maxRecDepth 65536 in
theorem w_case : (Jvm.Cond.and given_1 narrow_1).before args0 about1 = true := by decide +kernel
theorem w_applies : (headSpec (Jvm.Cond.code x code maxLocals ret :: tables_1) room_1).applies x e0.platform about1 = true :=
  (Spec.applies_iff w_frames).mpr ⟨w_running, w_runnable, w_alone, w_named, w_hears, w_ripe, w_room, w_tables⟩
theorem atStart : AtStart classFile x code maxLocals ret World_1 tables_1 room_1 Calls_1 rest_1 Pre_1 launch0 p0 e0 about1 theMethod args0 below0 :=
  ⟨lists_1, trivial, launch0.admits_env _ _ _, launch0.least_env, fairChoices_fair.cas, fairChoices_fair.clock, w_frames, w_args, w_heap, w_applies, trivial, w_rest, w_case⟩
end start1
theorem witness_1 : WitnessClaimed_1 := ⟨start1.p0, start1.e0, start1.about1, start1.theMethod, start1.args0, start1.below0, start1.atStart⟩
end Jvm.Pilot.@@N@@
