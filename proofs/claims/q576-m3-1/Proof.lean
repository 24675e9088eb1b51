import JvmDerived
import JvmDerived.Pilot.@@N@@Statement
import JvmDerived.Pilot.@@N@@Code
set_option linter.unusedVariables false
set_option linter.unusedSimpArgs false
/- laws to paste: Road.backV, Road.lenW, Road.chN, Road.codOf (cut by pick.py; bodies as the Statement names them) -/
namespace Jvm.Pilot.@@N@@
namespace StrChars
open Jvm Sem ClassFile Op Lib Jvm.Stand Jvm.Free.XT Jvm.Free.ALB Jvm.Free.JM Jvm.Free
open Jvm.Lib.Cold (StaticIs)
/-- a char array whose places are chars -/
def Ch (a : Addr) (A : Cell) (U : State) : Prop := Arr .char a A U ∧ Typed .char A
theorem Ch.mv {a : Addr} {A : Cell} {U U' : State} (h : Ch a A U) (hal : U.vm.Alike U'.vm) (hh : U'.heap = U.heap) : Ch a A U' := ⟨h.1.mv hal hh, h.2⟩
theorem Ch.keep {a : Addr} {A : Cell} {U U' : State} (h : Ch a A U) (hal : U.vm.Alike U'.vm) (hk : U'.heap[a]? = some A) : Ch a A U' := ⟨h.1.keep hal hk, h.2⟩
/-- what place i of a char[]'s cell holds -/
def cv (A : Cell) (i : Nat) : Int32 := match A.slots[i]? with | some (.int x) => x | _ => 0
theorem Ch.get {a : Addr} {A : Cell} {U : State} (h : Ch a A U) {i : Nat} (hi : i < A.slots.size) : A.slots[i]? = some (.int (cv A i)) := by
  have e := Array.getElem?_eq_getElem hi
  have f := h.2 i _ e
  unfold cv; rw [e]
  generalize A.slots[i] = v at f
  cases v <;> simp [fits] at f ⊢
/-- the byte that i2b leaves of a char -/
def lo8 (x : Int32) : Int32 := x.toInt8.toInt32
theorem fits_lo8 (y : Int32) : fits .byte (.int (lo8 y)) = true := by
  have h1 := y.toInt8.le_toInt
  have h2 := y.toInt8.toInt_lt
  simp only [lo8, fits, Bool.and_eq_true, decide_eq_true_eq, Int32.le_iff_toInt_le, Int8.toInt_toInt32, show (-128 : Int32).toInt = -128 from by decide, show (127 : Int32).toInt = 127 from by decide]
  omega
/-- A' is A but that each place j of lo .. hi - 1 holds f j -/
def Laid (A A' : Cell) (lo hi : Nat) (f : Nat → Value) : Prop := A'.cls = A.cls ∧ A'.vm = A.vm ∧ A'.slots.size = A.slots.size ∧ ∀ i, A'.slots[i]? = if lo ≤ i ∧ i < hi then some (f i) else A.slots[i]?
theorem Laid.zero (A : Cell) (lo : Nat) (f : Nat → Value) : Laid A A lo (lo + 0) f := ⟨rfl, rfl, rfl, fun i => by rw [if_neg (by omega)]⟩
theorem Laid.step {A Ak : Cell} {lo k : Nat} {f : Nat → Value} {v : Value} (h : Laid A Ak lo k f) (hlo : lo ≤ k) (hk : k < Ak.slots.size) (hv : v = f k) : Laid A (Ak.setSlot k v) lo (k + 1) f := by
  refine ⟨h.1, h.2.1, by simpa [Cell.setSlot] using h.2.2.1, fun i => ?_⟩
  by_cases e : k = i
  · subst e; rw [Cell.slots_setSlot_self v hk, if_pos (by omega), hv]
  · rw [Cell.slots_setSlot_ne v e, h.2.2.2 i]
    by_cases q : lo ≤ i ∧ i < k
    · rw [if_pos q, if_pos (by omega)]
    · rw [if_neg q, if_neg (by omega)]
def U16 : String := "java/lang/StringUTF16"
namespace Cmp5
def yN : MethodName := ⟨"java/lang/StringUTF16", "compress", "([CI[BII)I"⟩
abbrev yB : ByteArray := jdk_52_method_21_code
theorem d0 : decode yB 0 = .ok (.iconst 0, 1) := by decide +kernel
theorem d1 : decode yB 1 = .ok (.istore 5, 2) := by decide +kernel
theorem d3 : decode yB 3 = .ok (.iload 5, 2) := by decide +kernel
theorem d5 : decode yB 5 = .ok (.iload 4, 2) := by decide +kernel
theorem d7 : decode yB 7 = .ok (.if_icmp (.ge) 37, 3) := by decide +kernel
theorem d10 : decode yB 10 = .ok (.aload_n 0, 1) := by decide +kernel
theorem d11 : decode yB 11 = .ok (.iload_n 1, 1) := by decide +kernel
theorem d12 : decode yB 12 = .ok (.caload, 1) := by decide +kernel
theorem d13 : decode yB 13 = .ok (.istore 6, 2) := by decide +kernel
theorem d15 : decode yB 15 = .ok (.iload 6, 2) := by decide +kernel
theorem d17 : decode yB 17 = .ok (.sipush 255, 3) := by decide +kernel
theorem d20 : decode yB 20 = .ok (.if_icmp (.le) 6, 3) := by decide +kernel
theorem d26 : decode yB 26 = .ok (.aload_n 2, 1) := by decide +kernel
theorem d27 : decode yB 27 = .ok (.iload_n 3, 1) := by decide +kernel
theorem d28 : decode yB 28 = .ok (.iload 6, 2) := by decide +kernel
theorem d30 : decode yB 30 = .ok (.i2b, 1) := by decide +kernel
theorem d31 : decode yB 31 = .ok (.bastore, 1) := by decide +kernel
theorem d32 : decode yB 32 = .ok (.iinc 1 1, 3) := by decide +kernel
theorem d35 : decode yB 35 = .ok (.iinc 3 1, 3) := by decide +kernel
theorem d38 : decode yB 38 = .ok (.iinc 5 1, 3) := by decide +kernel
theorem d41 : decode yB 41 = .ok (.goto (-38), 3) := by decide +kernel
theorem d44 : decode yB 44 = .ok (.iload 4, 2) := by decide +kernel
theorem d46 : decode yB 46 = .ok (.ireturn, 1) := by decide +kernel
def site : List Cond := []
def tab : Cond := tabOf yN yB 7 (some .int) site
def P (b : Addr) (A : Cell) (d : Addr) (B : Cell) (o q len : Nat) (args : Array Value) (s : State) : Prop := args = #[.ref b, .int (Int32.ofNat o), .ref d, .int (Int32.ofNat q), .int (Int32.ofNat len)] ∧ Ch b A s ∧ Arr .byte d B s ∧ b ≠ d ∧ o + len ≤ A.slots.size ∧ q + len ≤ B.slots.size ∧ ∀ i, i < len → ¬ 255 < cv A (o + i)
def E (b : Addr) (A : Cell) (d : Addr) (B : Cell) (o q len : Nat) (r : Option Value) (s u : State) : Prop := r = some (.int (Int32.ofNat len)) ∧ ∃ B', Put d B' s u ∧ Laid B B' q (q + len) (fun j => Value.int (lo8 (cv A (o + (j - q)))))
/-- no char of the range above 255: len; the places written hold each char's low byte -/
theorem law (l : Launch) (b : Addr) (A : Cell) (d : Addr) (B : Cell) (o q len : Nat) : Law l yN 5 5 0 0 yB 7 (some .int) site (P b A d B o q len) (E b A d B o q len) (copyLocs d q len) 0 0 := by
  refine Law.of_walk (plainFor_of_name (by decide +kernel)) (by decide +kernel) (by decide +kernel) (by decide) (fun _ _ h => by rw [h.1]; rfl) (fun _ U U' hal hh h => ⟨h.1, h.2.1.mv hal hh, h.2.2.1.mv hal hh, h.2.2.2⟩) (fun r U U' V V' h1 hal h2 h => ⟨h.1, h.2.elim fun B' q => ⟨B', q.1.mv h1 h2, q.2⟩⟩) ?_
  intro p e s m args below meth c s₁ X0 hexec hbytes hml hret hlk hnm hown hh0 W hP
  obtain ⟨rfl, hA, hB, hne, l1, l2, hp⟩ := hP
  have c1 : Steps p.tables e below (s₁.setTop (entryFrame m #[.ref b, .int (Int32.ofNat o), .ref d, .int (Int32.ofNat q), .int (Int32.ofNat len)] 7)) (s₁.setTop (mkF m 0 #[.val (.ref b), .val (.int (Int32.ofNat o)), .val (.ref d), .val (.int (Int32.ofNat q)), .val (.int (Int32.ofNat len)), .unset, .unset] [])) := entry rfl
  have hA0 := hA.1.mv X0.warmed.alike hh0
  have hB0 := hB.mv X0.warmed.alike hh0
  have a31 := hA.1.2.2.2
  have c2 : Steps p.tables e below (s₁.setTop (entryFrame m #[.ref b, .int (Int32.ofNat o), .ref d, .int (Int32.ofNat q), .int (Int32.ofNat len)] 7)) (s₁.setTop (mkF m 3 #[.val (.ref b), .val (.int (Int32.ofNat o)), .val (.ref d), .val (.int (Int32.ofNat q)), .val (.int (Int32.ofNat len)), .val (.int 0), .unset] [])) := c1.trans (by
    refine iconstV X0.here hexec rfl 0 (hb hbytes d0) (by decide) ?_
    refine XS.istore X0.here hexec rfl (hb hbytes d1) rfl rfl ?_
    exact Steps.refl _)
  have loop : ∀ (r i : Nat), i + r = len → ∀ (z : Slot), (z = .unset ∨ ∃ w, z = .val w ∧ w.category = 1) → ∀ (Tl : State) (Bk : Cell), Stand p l e { frames := 0, locals := 0, cells := 0, slots := 0 } s m #[.ref b, .int (Int32.ofNat o), .ref d, .int (Int32.ofNat q), .int (Int32.ofNat len)] below meth c Tl ([] ++ copyLocs d q i) 0 0 → Put d Bk s₁ Tl → Laid B Bk q (q + i) (fun j => Value.int (lo8 (cv A (o + (j - q))))) →
      Steps p.tables e below (s₁.setTop (entryFrame m #[.ref b, .int (Int32.ofNat o), .ref d, .int (Int32.ofNat q), .int (Int32.ofNat len)] 7)) (Tl.setTop (mkF m 3 #[.val (.ref b), .val (.int (Int32.ofNat (o + i))), .val (.ref d), .val (.int (Int32.ofNat (q + i))), .val (.int (Int32.ofNat len)), .val (.int (Int32.ofNat i)), z] [])) → ∃ (T' : State) (B' : Cell) (z' : Slot), Stand p l e { frames := 0, locals := 0, cells := 0, slots := 0 } s m #[.ref b, .int (Int32.ofNat o), .ref d, .int (Int32.ofNat q), .int (Int32.ofNat len)] below meth c T' ([] ++ copyLocs d q len) 0 0 ∧ Put d B' s₁ T' ∧ Laid B B' q (q + len) (fun j => Value.int (lo8 (cv A (o + (j - q))))) ∧
      Steps p.tables e below (s₁.setTop (entryFrame m #[.ref b, .int (Int32.ofNat o), .ref d, .int (Int32.ofNat q), .int (Int32.ofNat len)] 7)) (T'.setTop (mkF m 3 #[.val (.ref b), .val (.int (Int32.ofNat (o + len))), .val (.ref d), .val (.int (Int32.ofNat (q + len))), .val (.int (Int32.ofNat len)), .val (.int (Int32.ofNat len)), z'] [])) := by
    intro r
    induction r with
    | zero =>
      intro i hi z hz Tl Bk Xl pl fl cl
      have hil : i = len := by omega
      rw [hil] at Xl fl cl
      exact ⟨Tl, Bk, z, Xl, pl, fl, cl⟩
    | succ r ih =>
      intro i hi z hz Tl Bk Xl pl fl cl
      have all := X0.warmed.alike.symm.trans Xl.warmed.alike
      have hAl := hA0.keep all (pl.other hne hA0.1)
      have hBk := hB0.like all pl.1 fl.1 fl.2.1 fl.2.2.1
      have hlt : q + i < Bk.slots.size := by rw [fl.2.2.1]; omega
      have c3 : Steps p.tables e below (s₁.setTop (entryFrame m #[.ref b, .int (Int32.ofNat o), .ref d, .int (Int32.ofNat q), .int (Int32.ofNat len)] 7)) (Tl.setTop (mkF m 12 #[.val (.ref b), .val (.int (Int32.ofNat (o + i))), .val (.ref d), .val (.int (Int32.ofNat (q + i))), .val (.int (Int32.ofNat len)), .val (.int (Int32.ofNat i)), z] [.int (Int32.ofNat (o + i)), .ref b])) := cl.trans (by
        refine XS.iload Xl.here hexec rfl (hb hbytes d3) rfl ?_
        refine XS.iload Xl.here hexec rfl (hb hbytes d5) rfl ?_
        refine XS.icmpNo Xl.here hexec rfl (hb hbytes d7) rfl (ii_ge_f (lt32 (by omega) (by omega))) ?_
        refine XS.aloadN Xl.here hexec rfl (hb hbytes d10) rfl rfl ?_
        refine XS.iloadN Xl.here hexec rfl (hb hbytes d11) rfl ?_
        exact Steps.refl _)
      have c4 : Steps p.tables e below (s₁.setTop (entryFrame m #[.ref b, .int (Int32.ofNat o), .ref d, .int (Int32.ofNat q), .int (Int32.ofNat len)] 7)) (Tl.setTop (mkF m 13 #[.val (.ref b), .val (.int (Int32.ofNat (o + i))), .val (.ref d), .val (.int (Int32.ofNat (q + i))), .val (.int (Int32.ofNat len)), .val (.int (Int32.ofNat i)), z] [.int (cv A (o + i))])) := c3.trans (by
        refine Xl.aget hexec hAl rfl (hA.get (i := o + i) (by omega)) rfl rfl (hb hbytes d12) ?_
        exact Steps.refl _)
      have c5 : Steps p.tables e below (s₁.setTop (entryFrame m #[.ref b, .int (Int32.ofNat o), .ref d, .int (Int32.ofNat q), .int (Int32.ofNat len)] 7)) (Tl.setTop (mkF m 15 #[.val (.ref b), .val (.int (Int32.ofNat (o + i))), .val (.ref d), .val (.int (Int32.ofNat (q + i))), .val (.int (Int32.ofNat len)), .val (.int (Int32.ofNat i)), .val (.int (cv A (o + i)))] [])) := c4.trans (by
        refine XS.istoreS Xl.here hexec rfl (hb hbytes d13) rfl rfl hz ?_
        exact Steps.refl _)
      have c6 : Steps p.tables e below (s₁.setTop (entryFrame m #[.ref b, .int (Int32.ofNat o), .ref d, .int (Int32.ofNat q), .int (Int32.ofNat len)] 7)) (Tl.setTop (mkF m 31 #[.val (.ref b), .val (.int (Int32.ofNat (o + i))), .val (.ref d), .val (.int (Int32.ofNat (q + i))), .val (.int (Int32.ofNat len)), .val (.int (Int32.ofNat i)), .val (.int (cv A (o + i)))] [.int (lo8 (cv A (o + i))), .int (Int32.ofNat (q + i)), .ref d])) := c5.trans (by
        refine XS.iload Xl.here hexec rfl (hb hbytes d15) rfl ?_
        refine sipushV Xl.here hexec rfl 255 (hb hbytes d17) (by decide) ?_
        refine XS.icmpYes Xl.here hexec rfl (pc0 := 20) rfl (hb hbytes d20) rfl (ii_le_t (hp i (by omega))) (by decide) rfl ?_
        refine XS.aloadN Xl.here hexec rfl (hb hbytes d26) rfl rfl ?_
        refine XS.iloadN Xl.here hexec rfl (hb hbytes d27) rfl ?_
        refine XS.iload Xl.here hexec rfl (hb hbytes d28) rfl ?_
        refine i2b Xl.here hexec rfl (hb hbytes d30) rfl ?_
        exact Steps.refl _)
      obtain ⟨T7, X7, p7, st7⟩ := Xl.aput hexec hBk rfl hlt rfl (fits_lo8 (cv A (o + i))) (g := (mkF m 31 #[.val (.ref b), .val (.int (Int32.ofNat (o + i))), .val (.ref d), .val (.int (Int32.ofNat (q + i))), .val (.int (Int32.ofNat len)), .val (.int (Int32.ofNat i)), .val (.int (cv A (o + i)))] [.int (lo8 (cv A (o + i))), .int (Int32.ofNat (q + i)), .ref d])) rfl (rest := []) rfl (hb hbytes d31)
      have c8 : Steps p.tables e below (s₁.setTop (entryFrame m #[.ref b, .int (Int32.ofNat o), .ref d, .int (Int32.ofNat q), .int (Int32.ofNat len)] 7)) (T7.setTop (mkF m 32 #[.val (.ref b), .val (.int (Int32.ofNat (o + i))), .val (.ref d), .val (.int (Int32.ofNat (q + i))), .val (.int (Int32.ofNat len)), .val (.int (Int32.ofNat i)), .val (.int (cv A (o + i)))] [])) := c6.trans (st7 _ (Steps.refl _))
      have c9 : Steps p.tables e below (s₁.setTop (entryFrame m #[.ref b, .int (Int32.ofNat o), .ref d, .int (Int32.ofNat q), .int (Int32.ofNat len)] 7)) (T7.setTop (mkF m 3 #[.val (.ref b), .val (.int (Int32.ofNat (o + i) + 1)), .val (.ref d), .val (.int (Int32.ofNat (q + i) + 1)), .val (.int (Int32.ofNat len)), .val (.int (Int32.ofNat i + 1)), .val (.int (cv A (o + i)))] [])) := c8.trans (by
        refine iincV X7.here hexec rfl 1 (hb hbytes d32) (by decide) rfl rfl ?_
        refine iincV X7.here hexec rfl 1 (hb hbytes d35) (by decide) rfl rfl ?_
        refine iincV X7.here hexec rfl 1 (hb hbytes d38) (by decide) rfl rfl ?_
        refine XS.goto X7.here hexec rfl (pc0 := 41) rfl (hb hbytes d41) (by decide) rfl ?_
        exact Steps.refl _)
      have c10 : Steps p.tables e below (s₁.setTop (entryFrame m #[.ref b, .int (Int32.ofNat o), .ref d, .int (Int32.ofNat q), .int (Int32.ofNat len)] 7)) (T7.setTop (mkF m 3 #[.val (.ref b), .val (.int (Int32.ofNat (o + (i + 1)))), .val (.ref d), .val (.int (Int32.ofNat (q + (i + 1)))), .val (.int (Int32.ofNat len)), .val (.int (Int32.ofNat (i + 1))), .val (.int (cv A (o + i)))] [])) := by
        have := c9
        rw [succ32, succ32, succ32] at this
        exact this
      exact ih (i + 1) (by omega) _ (Or.inr ⟨_, rfl, rfl⟩) T7 _ (by rw [copyLocs_step, ← List.append_assoc]; exact X7) (pl.trans p7) (fl.step (by omega) hlt (by simp)) c10
  obtain ⟨T9, B9, z9, X9, p9, f9, g9⟩ := loop len 0 (by omega) .unset (Or.inl rfl) s₁ B (by simpa [copyLocs] using X0) ⟨hB0.1, fun _ _ => rfl, rfl⟩ (Laid.zero _ _ _) c2
  have c11 : Steps p.tables e below (s₁.setTop (entryFrame m #[.ref b, .int (Int32.ofNat o), .ref d, .int (Int32.ofNat q), .int (Int32.ofNat len)] 7)) (T9.setTop (mkF m 46 #[.val (.ref b), .val (.int (Int32.ofNat (o + len))), .val (.ref d), .val (.int (Int32.ofNat (q + len))), .val (.int (Int32.ofNat len)), .val (.int (Int32.ofNat len)), z9] [.int (Int32.ofNat len)])) := g9.trans (by
    refine XS.iload X9.here hexec rfl (hb hbytes d3) rfl ?_
    refine XS.iload X9.here hexec rfl (hb hbytes d5) rfl ?_
    refine XS.icmpYes X9.here hexec rfl (pc0 := 7) rfl (hb hbytes d7) rfl (ii_ge_t (nlt32 (by omega) (Nat.le_refl _))) (by decide) rfl ?_
    refine XS.iload X9.here hexec rfl (hb hbytes d44) rfl ?_
    exact Steps.refl _)
  exact ⟨T9, some (.int (Int32.ofNat len)), _, _, _, X9, by simp, rfl, rfl, (fun h => by cases h), ⟨rfl, B9, p9.from hh0, f9⟩, fun fs hl => c11.trans (X9.ireturnOut hexec hret rfl (Or.inl rfl) (hb hbytes d46) hl)⟩
end Cmp5
namespace Cmp3
def yN : MethodName := ⟨"java/lang/StringUTF16", "compress", "([CII)[B"⟩
abbrev yB : ByteArray := jdk_52_method_16_code
theorem d0 : decode yB 0 = .ok (.iload_n 2, 1) := by decide +kernel
theorem d1 : decode yB 1 = .ok (.newarray .byte, 2) := by decide +kernel
theorem d3 : decode yB 3 = .ok (.astore_n 3, 1) := by decide +kernel
theorem d4 : decode yB 4 = .ok (.aload_n 0, 1) := by decide +kernel
theorem d5 : decode yB 5 = .ok (.iload_n 1, 1) := by decide +kernel
theorem d6 : decode yB 6 = .ok (.aload_n 3, 1) := by decide +kernel
theorem d7 : decode yB 7 = .ok (.iconst 0, 1) := by decide +kernel
theorem d8 : decode yB 8 = .ok (.iload_n 2, 1) := by decide +kernel
theorem d9 : decode yB 9 = .ok (.invokestatic 115, 3) := by decide +kernel
theorem d12 : decode yB 12 = .ok (.istore 4, 2) := by decide +kernel
theorem d14 : decode yB 14 = .ok (.iload 4, 2) := by decide +kernel
theorem d16 : decode yB 16 = .ok (.iload_n 2, 1) := by decide +kernel
theorem d17 : decode yB 17 = .ok (.if_icmp (.eq) 40, 3) := by decide +kernel
theorem d57 : decode yB 57 = .ok (.aload_n 3, 1) := by decide +kernel
theorem d58 : decode yB 58 = .ok (.areturn, 1) := by decide +kernel
def site : List Cond := [.arrayClass .byte, Cmp5.tab] ++ staticW U16 115 Cmp5.yN
def tab : Cond := tabOf yN yB 6 (some (.array .byte)) site
def P (b : Addr) (A : Cell) (o len : Nat) (args : Array Value) (s : State) : Prop := args = #[.ref b, .int (Int32.ofNat o), .int (Int32.ofNat len)] ∧ Ch b A s ∧ o + len ≤ A.slots.size ∧ len ≤ 536870912 ∧ ∀ i, i < len → ¬ 255 < cv A (o + i)
def E (b : Addr) (A : Cell) (o len : Nat) (r : Option Value) (s u : State) : Prop := NewArr .byte "[B" len (fun j => .int (lo8 (cv A (o + j)))) r s u ∧ u.heap.size = s.heap.size + 1
/-- no char of the range above 255: a new byte[] of their low bytes -/
theorem law (l : Launch) (b : Addr) (A : Cell) (o len : Nat) : Law l yN 3 3 1 18 yB 6 (some (.array .byte)) site (P b A o len) (E b A o len) [] 1 len := by
  refine Law.of_walk (plainFor_of_name (by decide +kernel)) (by decide +kernel) (by decide +kernel) (by decide) (fun _ _ h => by rw [h.1]; rfl) (fun _ U U' hal hh h => ⟨h.1, h.2.1.mv hal hh, h.2.2⟩) (fun r U U' V V' h1 hal h2 h => ⟨NewArr.mv r U U' V V' h1 hal h2 h.1, by rw [h1, h2]; exact h.2⟩) ?_
  intro p e s m args below meth c s₁ X0 hexec hbytes hml hret hlk hnm hown hh0 W hP
  obtain ⟨rfl, hA, l1, l2, hp⟩ := hP
  have a31 := hA.1.2.2.2
  have c1 : Steps p.tables e below (s₁.setTop (entryFrame m #[.ref b, .int (Int32.ofNat o), .int (Int32.ofNat len)] 6)) (s₁.setTop (mkF m 0 #[.val (.ref b), .val (.int (Int32.ofNat o)), .val (.int (Int32.ofNat len)), .unset, .unset, .unset] [])) := entry rfl
  have c2 : Steps p.tables e below (s₁.setTop (entryFrame m #[.ref b, .int (Int32.ofNat o), .int (Int32.ofNat len)] 6)) (s₁.setTop (mkF m 1 #[.val (.ref b), .val (.int (Int32.ofNat o)), .val (.int (Int32.ofNat len)), .unset, .unset, .unset] [.int (Int32.ofNat len)])) := c1.trans (by
    refine XS.iloadN X0.here hexec rfl (hb hbytes d0) rfl ?_
    exact Steps.refl _)
  obtain ⟨T3, B3, X3, ba3, bs3, bv3, bh3, bf3, st3⟩ := X0.anew hexec (atype := .byte) (wk W (.arrayClass .byte)) rfl (by show len * 1 ≤ _; omega) (by omega) (g := (mkF m 1 #[.val (.ref b), .val (.int (Int32.ofNat o)), .val (.int (Int32.ofNat len)), .unset, .unset, .unset] [.int (Int32.ofNat len)])) rfl (hb hbytes d1) (rest := []) rfl (Nat.le_refl _) (by show 0 + len ≤ len; omega)
  rw [hh0] at ba3 st3
  have kp3 : XT.Kept s T3 := (XT.Kept.of_eq hh0).push bh3
  have hA3 := hA.keep X3.warmed.alike (kp3 _ _ hA.1.1)
  have hne : b ≠ s.heap.size := hA.1.ne
  have c4 : Steps p.tables e below (s₁.setTop (entryFrame m #[.ref b, .int (Int32.ofNat o), .int (Int32.ofNat len)] 6)) (T3.setTop (mkF m 3 #[.val (.ref b), .val (.int (Int32.ofNat o)), .val (.int (Int32.ofNat len)), .unset, .unset, .unset] [.ref s.heap.size])) := c2.trans (st3 _ (Steps.refl _))
  have c5 : Steps p.tables e below (s₁.setTop (entryFrame m #[.ref b, .int (Int32.ofNat o), .int (Int32.ofNat len)] 6)) (T3.setTop (mkF m 9 #[.val (.ref b), .val (.int (Int32.ofNat o)), .val (.int (Int32.ofNat len)), .val (.ref s.heap.size), .unset, .unset] [.int (Int32.ofNat len), .int 0, .ref s.heap.size, .int (Int32.ofNat o), .ref b])) := c4.trans (by
    refine XS.astoreN X3.here hexec rfl (hb hbytes d3) rfl rfl rfl ?_
    refine XS.aloadN X3.here hexec rfl (hb hbytes d4) rfl rfl ?_
    refine XS.iloadN X3.here hexec rfl (hb hbytes d5) rfl ?_
    refine XS.aloadN X3.here hexec rfl (hb hbytes d6) rfl rfl ?_
    refine iconstV X3.here hexec rfl 0 (hb hbytes d7) (by decide) ?_
    refine XS.iloadN X3.here hexec rfl (hb hbytes d8) rfl ?_
    exact Steps.refl _)
  obtain ⟨v6, T6, X6, E6, g6⟩ := X3.callS hexec (Cmp5.law l b A s.heap.size B3 o 0 len) hown (wks W (staticW U16 115 Cmp5.yN)) (wk W Cmp5.tab) (W := 0) (Nat.le_of_ble_eq_true rfl) (Nat.le_of_ble_eq_true rfl) (Nat.le_refl _) (by show 0 + len + 0 ≤ len; omega) (g := (mkF m 9 #[.val (.ref b), .val (.int (Int32.ofNat o)), .val (.int (Int32.ofNat len)), .val (.ref s.heap.size), .unset, .unset] [.int (Int32.ofNat len), .int (Int32.ofNat 0), .ref s.heap.size, .int (Int32.ofNat o), .ref b])) rfl (by rw [hml]; rfl) c5 (argsL := [.ref b, .int (Int32.ofNat o), .ref s.heap.size, .int (Int32.ofNat 0), .int (Int32.ofNat len)]) (rest := []) rfl rfl (by show 2 * 0 + 0 ≤ _; decide) (hb hbytes d9) (⟨rfl, hA3, ba3, hne, l1, by rw [bs3]; simp, hp⟩)
  obtain ⟨rfl, B6, p6, f6⟩ := E6
  have c7 : Steps p.tables e below (s₁.setTop (entryFrame m #[.ref b, .int (Int32.ofNat o), .int (Int32.ofNat len)] 6)) (T6.setTop (mkF m 12 #[.val (.ref b), .val (.int (Int32.ofNat o)), .val (.int (Int32.ofNat len)), .val (.ref s.heap.size), .unset, .unset] [.int (Int32.ofNat len)])) := g6
  have c8 : Steps p.tables e below (s₁.setTop (entryFrame m #[.ref b, .int (Int32.ofNat o), .int (Int32.ofNat len)] 6)) (T6.setTop (mkF m 58 #[.val (.ref b), .val (.int (Int32.ofNat o)), .val (.int (Int32.ofNat len)), .val (.ref s.heap.size), .val (.int (Int32.ofNat len)), .unset] [.ref s.heap.size])) := c7.trans (by
    refine XS.istore X6.here hexec rfl (hb hbytes d12) rfl rfl ?_
    refine XS.iload X6.here hexec rfl (hb hbytes d14) rfl ?_
    refine XS.iloadN X6.here hexec rfl (hb hbytes d16) rfl ?_
    refine XS.icmpYes X6.here hexec rfl (pc0 := 17) rfl (hb hbytes d17) rfl (ii_eq_t rfl) (by decide) rfl ?_
    refine XS.aloadN X6.here hexec rfl (hb hbytes d57) rfl rfl ?_
    exact Steps.refl _)
  have X8 := X6.wide (L' := []) (cells' := 1) (slots' := len) (fun x hx hlt => by
    simp only [List.nil_append, copyLocs, List.mem_map, List.mem_range] at hx
    obtain ⟨i, -, rfl⟩ := hx
    exact absurd hlt (Nat.lt_irrefl _)) (Nat.le_refl _) (by omega)
  exact ⟨T6, some (.ref s.heap.size), _, _, _, X8, rfl, rfl, rfl, (fun h => by cases h), ⟨⟨rfl, B6, ba3.like (X3.warmed.alike.symm.trans X6.warmed.alike) p6.1 f6.1 f6.2.1 f6.2.2.1, f6.2.1.trans bv3, by rw [X6.warmed.alike.findClass, f6.1]; exact bf3, by rw [f6.2.2.1, bs3]; simp, fun j hj => by rw [f6.2.2.2 j, if_pos (by omega)]; rfl, kp3.put p6 (Nat.le_refl _)⟩, by rw [p6.2.2, bh3, hh0]; simp⟩, fun fs hl => c8.trans (X8.areturnOut hexec rfl hret rfl (hb hbytes d58) hl)⟩
end Cmp3
namespace CodL
def yN : MethodName := ⟨"java/lang/StringUTF16", "coderFromArrayLen", "([BI)B"⟩
abbrev yB : ByteArray := jdk_52_method_15_code
theorem d0 : decode yB 0 = .ok (.iload_n 1, 1) := by decide +kernel
theorem d1 : decode yB 1 = .ok (.aload_n 0, 1) := by decide +kernel
theorem d2 : decode yB 2 = .ok (.arraylength, 1) := by decide +kernel
theorem d3 : decode yB 3 = .ok (.isub, 1) := by decide +kernel
theorem d4 : decode yB 4 = .ok (.bipush 31, 2) := by decide +kernel
theorem d6 : decode yB 6 = .ok (.iushr, 1) := by decide +kernel
theorem d7 : decode yB 7 = .ok (.i2b, 1) := by decide +kernel
theorem d8 : decode yB 8 = .ok (.ireturn, 1) := by decide +kernel
def site : List Cond := []
def tab : Cond := tabOf yN yB 2 (some .byte) site
def P (d : Addr) (B : Cell) (args : Array Value) (s : State) : Prop := args = #[.ref d, .int (Int32.ofNat B.slots.size)] ∧ Arr .byte d B s
def E (r : Option Value) (s u : State) : Prop := XT.PureE (some (.int 0)) r s u
/-- an array as long as the number of chars: LATIN1 -/
theorem law (l : Launch) (d : Addr) (B : Cell) : Law l yN 2 2 0 0 yB 2 (some .byte) site (P d B) E [] 0 0 := by
  refine Law.of_walk (plainFor_of_name (by decide +kernel)) (by decide +kernel) (by decide +kernel) (by decide) (fun _ _ h => by rw [h.1]; rfl) (fun _ U U' hal hh h => ⟨h.1, h.2.mv hal hh⟩) (fun r U U' V V' h1 hal h2 h => XT.PureE.mv r U U' V V' h1 hal h2 h) ?_
  intro p e s m args below meth c s₁ X0 hexec hbytes hml hret hlk hnm hown hh0 W hP
  obtain ⟨rfl, hB⟩ := hP
  have hB0 := hB.mv X0.warmed.alike hh0
  have c1 : Steps p.tables e below (s₁.setTop (entryFrame m #[.ref d, .int (Int32.ofNat B.slots.size)] 2)) (s₁.setTop (mkF m 0 #[.val (.ref d), .val (.int (Int32.ofNat B.slots.size))] [])) := entry rfl
  have c2 : Steps p.tables e below (s₁.setTop (entryFrame m #[.ref d, .int (Int32.ofNat B.slots.size)] 2)) (s₁.setTop (mkF m 2 #[.val (.ref d), .val (.int (Int32.ofNat B.slots.size))] [.ref d, .int (Int32.ofNat B.slots.size)])) := c1.trans (by
    refine XS.iloadN X0.here hexec rfl (hb hbytes d0) rfl ?_
    refine XS.aloadN X0.here hexec rfl (hb hbytes d1) rfl rfl ?_
    exact Steps.refl _)
  have c3 : Steps p.tables e below (s₁.setTop (entryFrame m #[.ref d, .int (Int32.ofNat B.slots.size)] 2)) (s₁.setTop (mkF m 8 #[.val (.ref d), .val (.int (Int32.ofNat B.slots.size))] [.int (lo8 (ushr (Int32.ofNat B.slots.size - Int32.ofNat B.slots.size) 31))])) := c2.trans (by
    refine X0.alen hexec hB0 rfl rfl (hb hbytes d2) ?_
    refine XS.isub X0.here hexec rfl (hb hbytes d3) rfl ?_
    refine bipushV X0.here hexec rfl 31 (hb hbytes d4) (by decide) ?_
    refine iushr X0.here hexec rfl (hb hbytes d6) rfl ?_
    refine i2b X0.here hexec rfl (hb hbytes d7) rfl ?_
    exact Steps.refl _)
  have e0 : lo8 (ushr (Int32.ofNat B.slots.size - Int32.ofNat B.slots.size) 31) = 0 := by rw [Int32.sub_self]; decide
  rw [e0] at c3
  exact ⟨s₁, some (.int 0), _, _, _, X0, rfl, rfl, rfl, (fun h => by cases h), ⟨rfl, hh0⟩, fun fs hl => c3.trans (X0.ireturnOut hexec hret rfl (Or.inr (Or.inr (Or.inl rfl))) (hb hbytes d8) hl)⟩
end CodL
/-- the String at a is Latin-1 over a new byte[] (the heap's one new cell): the low bytes of the len chars of A from o on; every cell but a is kept -/
def Got (a : Addr) (D : Cell) (fV fC : Field) (A : Cell) (o len : Nat) (r : Option Value) (s u : State) : Prop := r = none ∧ ∃ D' V : Cell, Blank "java/lang/String" a D' u ∧ Same D D' [fV.slot, fC.slot] ∧ D'.slots[fV.slot]? = some (.ref s.heap.size) ∧ D'.slots[fC.slot]? = some (.int 0) ∧ Arr .byte s.heap.size V u ∧ V.vm = .none ∧ u.vm.findClass "[B" = some V.cls ∧ V.slots.size = len ∧ (∀ j, j < len → V.slots[j]? = some (.int (lo8 (cv A (o + j))))) ∧ (∀ (y : Addr) (c : Cell), y ≠ a → s.heap[y]? = some c → u.heap[y]? = some c) ∧ u.heap.size = s.heap.size + 1
theorem Got.mv {a : Addr} {D A : Cell} {fV fC : Field} {o len : Nat} : ∀ r (U U' V V' : State), U'.heap = U.heap → V.vm.Alike V'.vm → V'.heap = V.heap → Got a D fV fC A o len r U V → Got a D fV fC A o len r U' V' :=
  fun r U U' V V' h1 hal h2 ⟨e0, D', X, a1, a2, a3, a4, a5, a6, a7, a8, a9, a10, a11⟩ => ⟨e0, D', X, a1.mv hal h2, a2, by rw [h1]; exact a3, a4, by rw [h1]; exact a5.mv hal h2, a6, by rw [hal.findClass]; exact a7, a8, a9, by rw [h1, h2]; exact a10, by rw [h1, h2]; exact a11⟩
namespace New4
def yN : MethodName := ⟨"java/lang/String", "<init>", "([CIILjava/lang/Void;)V"⟩
abbrev yB : ByteArray := jdk_42_method_149_code
theorem d0 : decode yB 0 = .ok (.aload_n 0, 1) := by decide +kernel
theorem d1 : decode yB 1 = .ok (.invokespecial 1, 3) := by decide +kernel
theorem d4 : decode yB 4 = .ok (.iload_n 3, 1) := by decide +kernel
theorem d5 : decode yB 5 = .ok (.ifCond (.ne) 22, 3) := by decide +kernel
theorem d27 : decode yB 27 = .ok (.getstatic 38, 3) := by decide +kernel
theorem d30 : decode yB 30 = .ok (.ifCond (.eq) 28, 3) := by decide +kernel
theorem d33 : decode yB 33 = .ok (.aload_n 1, 1) := by decide +kernel
theorem d34 : decode yB 34 = .ok (.iload_n 2, 1) := by decide +kernel
theorem d35 : decode yB 35 = .ok (.iload_n 3, 1) := by decide +kernel
theorem d36 : decode yB 36 = .ok (.invokestatic 177, 3) := by decide +kernel
theorem d39 : decode yB 39 = .ok (.astore 5, 2) := by decide +kernel
theorem d41 : decode yB 41 = .ok (.aload_n 0, 1) := by decide +kernel
theorem d42 : decode yB 42 = .ok (.aload 5, 2) := by decide +kernel
theorem d44 : decode yB 44 = .ok (.iload_n 3, 1) := by decide +kernel
theorem d45 : decode yB 45 = .ok (.invokestatic 47, 3) := by decide +kernel
theorem d48 : decode yB 48 = .ok (.putfield 15, 3) := by decide +kernel
theorem d51 : decode yB 51 = .ok (.aload_n 0, 1) := by decide +kernel
theorem d52 : decode yB 52 = .ok (.aload 5, 2) := by decide +kernel
theorem d54 : decode yB 54 = .ok (.putfield 9, 3) := by decide +kernel
theorem d57 : decode yB 57 = .ok (.return_, 1) := by decide +kernel
def site : List Cond := [.fieldLink "java/lang/String" 38 "java/lang/String" "COMPACT_STRINGS" "Z", Cmp3.tab, CodL.tab, .laysFinal "java/lang/String" "java/lang/String" "value" "[B", .fieldLink "java/lang/String" 9 "java/lang/String" "value" "[B", .laysFinal "java/lang/String" "java/lang/String" "coder" "B", .fieldLink "java/lang/String" 15 "java/lang/String" "coder" "B"] ++ objW "java/lang/String" 1 ++ staticW "java/lang/String" 177 Cmp3.yN ++ staticW "java/lang/String" 47 CodL.yN
def tab : Cond := tabOf yN yB 6 none site
def P (a : Addr) (D : Cell) (fV fC : Field) (b : Addr) (A : Cell) (z : Int32) (o len : Nat) (args : Array Value) (s : State) : Prop := args = #[.ref a, .ref b, .int (Int32.ofNat o), .int (Int32.ofNat len), .null] ∧ Blank "java/lang/String" a D s ∧ Found "java/lang/String" "value" "[B" fV s ∧ Found "java/lang/String" "coder" "B" fC s ∧ Ch b A s ∧ StaticIs s "java/lang/String" "COMPACT_STRINGS" "Z" (.int z) ∧ ¬ z = 0 ∧ 0 < len ∧ o + len ≤ A.slots.size ∧ len ≤ 536870912 ∧ ∀ i, i < len → ¬ 255 < cv A (o + i)
def E (a : Addr) (D : Cell) (fV fC : Field) (A : Cell) (o len : Nat) (r : Option Value) (s u : State) : Prop := Got a D fV fC A o len r s u
/-- len > 0, no char of the range above 255: a Latin-1 String of their low bytes -/
theorem law (l : Launch) (a : Addr) (D : Cell) (fV fC : Field) (b : Addr) (A : Cell) (z : Int32) (o len : Nat) : Law l yN 5 4 2 35 yB 6 none site (P a D fV fC b A z o len) (E a D fV fC A o len) [⟨a, fC.slot⟩, ⟨a, fV.slot⟩] 1 len := by
  refine Law.of_walk (plainFor_of_name (by decide +kernel)) (by decide +kernel) (by decide +kernel) (by decide) (fun _ _ h => by rw [h.1]; rfl) (fun _ U U' hal hh h => ⟨h.1, h.2.1.mv hal hh, h.2.2.1.al hal, h.2.2.2.1.al hal, h.2.2.2.2.1.mv hal hh, h.2.2.2.2.2.1.there hal hh, h.2.2.2.2.2.2⟩) (fun r U U' V V' h1 hal h2 h => Got.mv r U U' V V' h1 hal h2 h) ?_
  intro p e s m args below meth c s₁ X0 hexec hbytes hml hret hlk hnm hown hh0 W hP
  obtain ⟨rfl, hB, f1, f2, hA, s1, hz, l0, l1, l2, hp⟩ := hP
  have a31 := hA.1.2.2.2
  have c1 : Steps p.tables e below (s₁.setTop (entryFrame m #[.ref a, .ref b, .int (Int32.ofNat o), .int (Int32.ofNat len), .null] 6)) (s₁.setTop (mkF m 0 #[.val (.ref a), .val (.ref b), .val (.int (Int32.ofNat o)), .val (.int (Int32.ofNat len)), .val .null, .unset] [])) := entry rfl
  have c2 : Steps p.tables e below (s₁.setTop (entryFrame m #[.ref a, .ref b, .int (Int32.ofNat o), .int (Int32.ofNat len), .null] 6)) (s₁.setTop (mkF m 1 #[.val (.ref a), .val (.ref b), .val (.int (Int32.ofNat o)), .val (.int (Int32.ofNat len)), .val .null, .unset] [.ref a])) := c1.trans (by
    refine XS.aloadN X0.here hexec rfl (hb hbytes d0) rfl rfl ?_
    exact Steps.refl _)
  obtain ⟨T3, X3, q3, st3⟩ := X0.oinit hexec hown (wks W (objW "java/lang/String" 1)) (g := (mkF m 1 #[.val (.ref a), .val (.ref b), .val (.int (Int32.ofNat o)), .val (.int (Int32.ofNat len)), .val .null, .unset] [.ref a])) rfl (by rw [hml]; rfl) (rest := []) rfl (hb hbytes d1) (W := 0) (by show 2 * 0 + 0 ≤ _; decide) (Nat.le_of_ble_eq_true rfl) (Nat.le_of_ble_eq_true rfl)
  have hh3 := q3.trans hh0
  have c4 : Steps p.tables e below (s₁.setTop (entryFrame m #[.ref a, .ref b, .int (Int32.ofNat o), .int (Int32.ofNat len), .null] 6)) (T3.setTop (mkF m 27 #[.val (.ref a), .val (.ref b), .val (.int (Int32.ofNat o)), .val (.int (Int32.ofNat len)), .val .null, .unset] [])) := (c2.trans (st3 _ (Steps.refl _))).trans (by
    refine XS.iloadN X3.here hexec rfl (hb hbytes d4) rfl ?_
    refine XS.ifYes X3.here hexec rfl (pc0 := 5) rfl (hb hbytes d5) rfl (i0_ne_t (nz32 (by omega) l0)) (by decide) rfl ?_
    exact Steps.refl _)
  obtain ⟨T5, X5, q5, st5⟩ := X3.sget hexec hown (wk W (.fieldLink "java/lang/String" 38 "java/lang/String" "COMPACT_STRINGS" "Z")) s1 (fun _ _ h => by rw [hh3]; exact h) (g := (mkF m 27 #[.val (.ref a), .val (.ref b), .val (.int (Int32.ofNat o)), .val (.int (Int32.ofNat len)), .val .null, .unset] [])) rfl (hb hbytes d27)
  have hh5 := q5.trans hh3
  have c6 : Steps p.tables e below (s₁.setTop (entryFrame m #[.ref a, .ref b, .int (Int32.ofNat o), .int (Int32.ofNat len), .null] 6)) (T5.setTop (mkF m 30 #[.val (.ref a), .val (.ref b), .val (.int (Int32.ofNat o)), .val (.int (Int32.ofNat len)), .val .null, .unset] [.int z])) := c4.trans (st5 _ (Steps.refl _))
  have c7 : Steps p.tables e below (s₁.setTop (entryFrame m #[.ref a, .ref b, .int (Int32.ofNat o), .int (Int32.ofNat len), .null] 6)) (T5.setTop (mkF m 36 #[.val (.ref a), .val (.ref b), .val (.int (Int32.ofNat o)), .val (.int (Int32.ofNat len)), .val .null, .unset] [.int (Int32.ofNat len), .int (Int32.ofNat o), .ref b])) := c6.trans (by
    refine XS.ifNo X5.here hexec rfl (hb hbytes d30) rfl (i0_eq_f hz) ?_
    refine XS.aloadN X5.here hexec rfl (hb hbytes d33) rfl rfl ?_
    refine XS.iloadN X5.here hexec rfl (hb hbytes d34) rfl ?_
    refine XS.iloadN X5.here hexec rfl (hb hbytes d35) rfl ?_
    exact Steps.refl _)
  obtain ⟨v8, T8, X8, E8, g8⟩ := X5.callS hexec (Cmp3.law l b A o len) hown (wks W (staticW "java/lang/String" 177 Cmp3.yN)) (wk W Cmp3.tab) (W := 0) (Nat.le_of_ble_eq_true rfl) (Nat.le_of_ble_eq_true rfl) (Nat.le_refl _) (by show 0 + len ≤ len; omega) (g := (mkF m 36 #[.val (.ref a), .val (.ref b), .val (.int (Int32.ofNat o)), .val (.int (Int32.ofNat len)), .val .null, .unset] [.int (Int32.ofNat len), .int (Int32.ofNat o), .ref b])) rfl (by rw [hml]; rfl) c7 (argsL := [.ref b, .int (Int32.ofNat o), .int (Int32.ofNat len)]) (rest := []) rfl rfl (by show 2 * 0 + 0 ≤ _; decide) (hb hbytes d36) (⟨rfl, hA.mv X5.warmed.alike hh5, l1, l2, hp⟩)
  obtain ⟨e8, z8⟩ := E8
  obtain ⟨rfl, N, n1, n2, n3, n4, n5, n6⟩ := NewArr.mv _ T5 s _ _ hh5.symm (Vm.Alike.refl _) rfl e8
  rw [hh5] at z8
  have hB1 := hB.keep X8.warmed.alike (n6 _ _ hB.1)
  have hne : s.heap.size ≠ a := (Nat.ne_of_lt (Array.getElem?_eq_some_iff.mp hB.1).1).symm
  have c9 : Steps p.tables e below (s₁.setTop (entryFrame m #[.ref a, .ref b, .int (Int32.ofNat o), .int (Int32.ofNat len), .null] 6)) (T8.setTop (mkF m 39 #[.val (.ref a), .val (.ref b), .val (.int (Int32.ofNat o)), .val (.int (Int32.ofNat len)), .val .null, .unset] [.ref s.heap.size])) := g8
  have c10 : Steps p.tables e below (s₁.setTop (entryFrame m #[.ref a, .ref b, .int (Int32.ofNat o), .int (Int32.ofNat len), .null] 6)) (T8.setTop (mkF m 45 #[.val (.ref a), .val (.ref b), .val (.int (Int32.ofNat o)), .val (.int (Int32.ofNat len)), .val .null, .val (.ref s.heap.size)] [.int (Int32.ofNat N.slots.size), .ref s.heap.size, .ref a])) := by
    have hc : Steps p.tables e below (s₁.setTop (entryFrame m #[.ref a, .ref b, .int (Int32.ofNat o), .int (Int32.ofNat len), .null] 6)) (T8.setTop (mkF m 45 #[.val (.ref a), .val (.ref b), .val (.int (Int32.ofNat o)), .val (.int (Int32.ofNat len)), .val .null, .val (.ref s.heap.size)] [.int (Int32.ofNat len), .ref s.heap.size, .ref a])) := c9.trans (by
      refine XS.astore X8.here hexec rfl (hb hbytes d39) rfl rfl rfl ?_
      refine XS.aloadN X8.here hexec rfl (hb hbytes d41) rfl rfl ?_
      refine XS.aload X8.here hexec rfl (hb hbytes d42) rfl rfl ?_
      refine XS.iloadN X8.here hexec rfl (hb hbytes d44) rfl ?_
      exact Steps.refl _)
    rw [n4]; exact hc
  obtain ⟨v11, T11, X11, E11, g11⟩ := X8.callS hexec (CodL.law l s.heap.size N) hown (wks W (staticW "java/lang/String" 47 CodL.yN)) (wk W CodL.tab) (W := 1) (Nat.le_of_ble_eq_true rfl) (Nat.le_of_ble_eq_true rfl) (Nat.le_refl _) (by show 0 + len + 0 ≤ len; omega) (g := (mkF m 45 #[.val (.ref a), .val (.ref b), .val (.int (Int32.ofNat o)), .val (.int (Int32.ofNat len)), .val .null, .val (.ref s.heap.size)] [.int (Int32.ofNat N.slots.size), .ref s.heap.size, .ref a])) rfl (by rw [hml]; rfl) c10 (argsL := [.ref s.heap.size, .int (Int32.ofNat N.slots.size)]) (rest := [.ref a]) rfl rfl (by show 2 * 0 + (1 + 0) ≤ _; decide) (hb hbytes d45) (⟨rfl, n1⟩)
  obtain ⟨rfl, q11⟩ := E11
  have hB11 := hB1.mv (X8.warmed.alike.symm.trans X11.warmed.alike) q11
  have c12 : Steps p.tables e below (s₁.setTop (entryFrame m #[.ref a, .ref b, .int (Int32.ofNat o), .int (Int32.ofNat len), .null] 6)) (T11.setTop (mkF m 48 #[.val (.ref a), .val (.ref b), .val (.int (Int32.ofNat o)), .val (.int (Int32.ofNat len)), .val .null, .val (.ref s.heap.size)] [.int 0, .ref a])) := g11
  obtain ⟨T13, X13, p13, bl13, sl13, st13⟩ := X11.finit hexec hown (wk W (.fieldLink "java/lang/String" 15 "java/lang/String" "coder" "B")) (Or.inr ⟨_, (wk W (.laysFinal "java/lang/String" "java/lang/String" "coder" "B"))⟩) (Or.inl ⟨rfl, hnm⟩) f2 (Or.inl rfl) hB11 (t := .byte) (by decide +kernel) rfl (g := (mkF m 48 #[.val (.ref a), .val (.ref b), .val (.int (Int32.ofNat o)), .val (.int (Int32.ofNat len)), .val .null, .val (.ref s.heap.size)] [.int 0, .ref a])) rfl (rest := []) rfl (hb hbytes d48)
  have c14 : Steps p.tables e below (s₁.setTop (entryFrame m #[.ref a, .ref b, .int (Int32.ofNat o), .int (Int32.ofNat len), .null] 6)) (T13.setTop (mkF m 54 #[.val (.ref a), .val (.ref b), .val (.int (Int32.ofNat o)), .val (.int (Int32.ofNat len)), .val .null, .val (.ref s.heap.size)] [.ref s.heap.size, .ref a])) := (c12.trans (st13 _ (Steps.refl _))).trans (by
    refine XS.aloadN X13.here hexec rfl (hb hbytes d51) rfl rfl ?_
    refine XS.aload X13.here hexec rfl (hb hbytes d52) rfl rfl ?_
    exact Steps.refl _)
  obtain ⟨T15, X15, p15, bl15, sl15, st15⟩ := X13.finit hexec hown (wk W (.fieldLink "java/lang/String" 9 "java/lang/String" "value" "[B")) (Or.inr ⟨_, (wk W (.laysFinal "java/lang/String" "java/lang/String" "value" "[B"))⟩) (Or.inl ⟨rfl, hnm⟩) f1 (Or.inl rfl) bl13 (t := (.array .byte)) (by decide +kernel) rfl (g := (mkF m 54 #[.val (.ref a), .val (.ref b), .val (.int (Int32.ofNat o)), .val (.int (Int32.ofNat len)), .val .null, .val (.ref s.heap.size)] [.ref s.heap.size, .ref a])) rfl (rest := []) rfl (hb hbytes d54)
  have c16 : Steps p.tables e below (s₁.setTop (entryFrame m #[.ref a, .ref b, .int (Int32.ofNat o), .int (Int32.ofNat len), .null] 6)) (T15.setTop (mkF m 57 #[.val (.ref a), .val (.ref b), .val (.int (Int32.ofNat o)), .val (.int (Int32.ofNat len)), .val .null, .val (.ref s.heap.size)] [])) := c14.trans (st15 _ (Steps.refl _))
  have ap := apart (Or.inr ⟨_, (wk W (.laysFinal "java/lang/String" "java/lang/String" "value" "[B"))⟩) (Or.inr ⟨_, (wk W (.laysFinal "java/lang/String" "java/lang/String" "coder" "B"))⟩) f1 f2 (t₁ := .array .byte) (t₂ := .byte) (by decide +kernel) (by decide +kernel) (by decide)
  have al := X8.warmed.alike.symm.trans X15.warmed.alike
  have n7 : T11.heap[s.heap.size]? = some N := by rw [q11]; exact n1.1
  exact ⟨T15, none, _, _, _, X15, by simp, rfl, by omega, (fun _ => rfl), ⟨rfl, _, N, bl15, ((Same.refl D _).set _ (by simp)).set _ (by simp), sl15, (Cell.slots_setSlot_ne _ ap).trans sl13, n1.keep al (p15.other hne (p13.other hne n7)), n2, by rw [al.findClass]; exact n3, n4, n5, fun y c h1 h2 => p15.other h1 (p13.other h1 (by rw [q11]; exact n6 y c h2)), by rw [p15.2.2, p13.2.2, q11]; exact z8⟩, fun fs hl => c16.trans (X15.returnOut hexec hret (hb hbytes d57) hl)⟩
end New4
namespace New1
def yN : MethodName := ⟨"java/lang/String", "<init>", "([C)V"⟩
abbrev yB : ByteArray := jdk_42_method_3_code
theorem d0 : decode yB 0 = .ok (.aload_n 0, 1) := by decide +kernel
theorem d1 : decode yB 1 = .ok (.aload_n 1, 1) := by decide +kernel
theorem d2 : decode yB 2 = .ok (.iconst 0, 1) := by decide +kernel
theorem d3 : decode yB 3 = .ok (.aload_n 1, 1) := by decide +kernel
theorem d4 : decode yB 4 = .ok (.arraylength, 1) := by decide +kernel
theorem d5 : decode yB 5 = .ok (.aconst_null, 1) := by decide +kernel
theorem d6 : decode yB 6 = .ok (.invokespecial 27, 3) := by decide +kernel
theorem d9 : decode yB 9 = .ok (.return_, 1) := by decide +kernel
def site : List Cond := [New4.tab] ++ initW "java/lang/String" 27 New4.yN
def tab : Cond := tabOf yN yB 2 none site
def P (a : Addr) (D : Cell) (fV fC : Field) (b : Addr) (A : Cell) (z : Int32) (args : Array Value) (s : State) : Prop := args = #[.ref a, .ref b] ∧ Blank "java/lang/String" a D s ∧ Found "java/lang/String" "value" "[B" fV s ∧ Found "java/lang/String" "coder" "B" fC s ∧ Ch b A s ∧ StaticIs s "java/lang/String" "COMPACT_STRINGS" "Z" (.int z) ∧ ¬ z = 0 ∧ 0 < A.slots.size ∧ A.slots.size ≤ 536870912 ∧ ∀ i, i < A.slots.size → ¬ 255 < cv A i
def E (a : Addr) (D : Cell) (fV fC : Field) (A : Cell) (r : Option Value) (s u : State) : Prop := Got a D fV fC A 0 A.slots.size r s u
/-- new String(chars), not empty, no char above 255: a Latin-1 String of their low bytes -/
theorem law (l : Launch) (a : Addr) (D : Cell) (fV fC : Field) (b : Addr) (A : Cell) (z : Int32) : Law l yN 2 1 3 52 yB 2 none site (P a D fV fC b A z) (E a D fV fC A) [⟨a, fC.slot⟩, ⟨a, fV.slot⟩] 1 A.slots.size := by
  refine Law.of_walk (plainFor_of_name (by decide +kernel)) (by decide +kernel) (by decide +kernel) (by decide) (fun _ _ h => by rw [h.1]; rfl) (fun _ U U' hal hh h => ⟨h.1, h.2.1.mv hal hh, h.2.2.1.al hal, h.2.2.2.1.al hal, h.2.2.2.2.1.mv hal hh, h.2.2.2.2.2.1.there hal hh, h.2.2.2.2.2.2⟩) (fun r U U' V V' h1 hal h2 h => Got.mv r U U' V V' h1 hal h2 h) ?_
  intro p e s m args below meth c s₁ X0 hexec hbytes hml hret hlk hnm hown hh0 W hP
  obtain ⟨rfl, hB, f1, f2, hA, s1, hz, l0, l2, hp⟩ := hP
  have c1 : Steps p.tables e below (s₁.setTop (entryFrame m #[.ref a, .ref b] 2)) (s₁.setTop (mkF m 0 #[.val (.ref a), .val (.ref b)] [])) := entry rfl
  have c2 : Steps p.tables e below (s₁.setTop (entryFrame m #[.ref a, .ref b] 2)) (s₁.setTop (mkF m 6 #[.val (.ref a), .val (.ref b)] [.null, .int (Int32.ofNat A.slots.size), .int 0, .ref b, .ref a])) := c1.trans (by
    refine XS.aloadN X0.here hexec rfl (hb hbytes d0) rfl rfl ?_
    refine XS.aloadN X0.here hexec rfl (hb hbytes d1) rfl rfl ?_
    refine iconstV X0.here hexec rfl 0 (hb hbytes d2) (by decide) ?_
    refine XS.aloadN X0.here hexec rfl (hb hbytes d3) rfl rfl ?_
    refine X0.alen hexec (hA.1.mv X0.warmed.alike hh0) rfl rfl (hb hbytes d4) ?_
    refine XS.aconstNull X0.here hexec rfl (hb hbytes d5) ?_
    exact Steps.refl _)
  obtain ⟨v3, T3, X3, E3, g3⟩ := X0.callN hexec (New4.law l a D fV fC b A z 0 A.slots.size) rfl hown (wks W (initW "java/lang/String" 27 New4.yN)) (W New4.tab (by simp only [site, List.mem_cons, List.mem_append, true_or, or_true])) (W := 0) (Nat.le_of_ble_eq_true rfl) (Nat.le_of_ble_eq_true rfl) (Nat.le_refl _) (by show 0 + A.slots.size ≤ A.slots.size; omega) (g := (mkF m 6 #[.val (.ref a), .val (.ref b)] [.null, .int (Int32.ofNat A.slots.size), .int (Int32.ofNat 0), .ref b, .ref a])) rfl (by rw [hml]; rfl) c2 (argsL := [.ref b, .int (Int32.ofNat 0), .int (Int32.ofNat A.slots.size), .null]) (rest := []) rfl rfl (by show 2 * 0 + 0 ≤ _; decide) (hb hbytes d6) (⟨rfl, hB.mv X0.warmed.alike hh0, f1.al X0.warmed.alike, f2.al X0.warmed.alike, hA.mv X0.warmed.alike hh0, s1.there X0.warmed.alike hh0, hz, l0, by omega, l2, fun i hi => by rw [Nat.zero_add]; exact hp i hi⟩)
  have e0 := Got.mv _ s₁ s _ _ hh0.symm (Vm.Alike.refl _) rfl E3
  obtain rfl := e0.1
  have c4 : Steps p.tables e below (s₁.setTop (entryFrame m #[.ref a, .ref b] 2)) (T3.setTop (mkF m 9 #[.val (.ref a), .val (.ref b)] [])) := g3
  exact ⟨T3, none, _, _, _, X3, by simp, rfl, by omega, (fun _ => rfl), e0, fun fs hl => c4.trans (X3.returnOut hexec hret (hb hbytes d9) hl)⟩
theorem pays {l : Launch} {R : Room} {p : Program} {e : Env} {below : List Frame} {s : State} {sargs : Array Value} {len W : Nat} (a : Addr) (D : Cell) (fV fC : Field) (b : Addr) (A : Cell) (z : Int32) (htab : tab.before sargs s = true) (hfr : 4 ≤ R.frames) (hlo : W + 65 ≤ R.locals) :
    Back l R p e below s sargs yN len W (fun A₁ a₁ => A₁.cells + 1 ≤ R.cells ∧ A₁.slots + A.slots.size ≤ R.slots ∧ P a D fV fC b A z a₁ A₁.U) (fun A₁ _ v₁ B₁ => E a D fV fC A v₁ A₁.U B₁.U ∧ B₁.locs = A₁.locs ++ [⟨a, fC.slot⟩, ⟨a, fV.slot⟩] ∧ B₁.cells = A₁.cells + 1 ∧ B₁.slots = A₁.slots + A.slots.size) :=
  (law l a D fV fC b A z).pays htab hfr (by omega)
end New1
/-- the byte, read back as charAt reads it, is the char -/
theorem lo8_mask {x : Int32} (h0 : ¬ x < 0) (h1 : ¬ 255 < x) : lo8 x &&& 255 = x := by
  have t : ∀ k : Fin 256, lo8 (Int32.ofNat k.val) &&& 255 = Int32.ofNat k.val := by decide +kernel
  rw [Int32.lt_iff_toInt_lt] at h0 h1
  have e0 : (0 : Int32).toInt = 0 := rfl
  have e1 : (255 : Int32).toInt = 255 := rfl
  obtain ⟨k, hk⟩ : ∃ k : Nat, x.toInt = k := ⟨x.toInt.toNat, by omega⟩
  have hx : x = Int32.ofNat k := Int32.toInt_inj.mp (by rw [hk, Int32.toInt_ofNat_small (by omega)])
  rw [hx]
  exact t ⟨k, by omega⟩
end StrChars
namespace StrChars.Road
open Jvm Sem ClassFile Op Lib Jvm.Stand Jvm.Free Jvm.Free.XT
open Jvm.Lib.Cold (StaticIs)
abbrev ST : String := "java/lang/String"
/-- every table word that New1's law asks, flat -/
abbrev words : List Jvm.Cond := [.code New1.yN New1.yB 2 none, .initialized ST, .methodLink ST 27 New4.yN, .instanceMethod New4.yN,
  .code New4.yN New4.yB 6 none, .fieldLink ST 38 ST "COMPACT_STRINGS" "Z", .laysFinal ST ST "value" "[B", .fieldLink ST 9 ST "value" "[B", .laysFinal ST ST "coder" "B", .fieldLink ST 15 ST "coder" "B",
  .methodLink ST 1 Lib.objectInit, .instanceMethod Lib.objectInit, .code Lib.objectInit ⟨#[0xb1]⟩ 1 none, .methodLink ST 177 Cmp3.yN, .static Cmp3.yN, .methodLink ST 47 CodL.yN, .static CodL.yN,
  .code Cmp3.yN Cmp3.yB 6 (some (.array .byte)), .initialized U16, .arrayClass .byte, .methodLink U16 115 Cmp5.yN, .static Cmp5.yN, .code Cmp5.yN Cmp5.yB 7 (some .int), .code CodL.yN CodL.yB 2 (some .byte)]
theorem tab_of {a : Array Value} {s : State} (h : ∀ w ∈ words, w.before a s = true) : New1.tab.before a s = true := by
  have h5 : Cmp5.tab.before a s = true := unparts (wk h (.code Cmp5.yN Cmp5.yB 7 (some .int))) (wks h (.initialized Cmp5.yN.cls :: Cmp5.site))
  have hc : CodL.tab.before a s = true := unparts (wk h (.code CodL.yN CodL.yB 2 (some .byte))) (wks h (.initialized CodL.yN.cls :: CodL.site))
  have q5 : ∀ w ∈ Cmp5.tab :: words, w.before a s = true := fun w hw => (List.mem_cons.mp hw).elim (fun e => e ▸ h5) (h w)
  have h3 : Cmp3.tab.before a s = true := unparts (wk q5 (.code Cmp3.yN Cmp3.yB 6 (some (.array .byte)))) (wks q5 (.initialized Cmp3.yN.cls :: Cmp3.site))
  have q3 : ∀ w ∈ Cmp3.tab :: CodL.tab :: words, w.before a s = true := fun w hw => (List.mem_cons.mp hw).elim (fun e => e ▸ h3) fun hw => (List.mem_cons.mp hw).elim (fun e => e ▸ hc) (h w)
  have h4 : New4.tab.before a s = true := unparts (wk q3 (.code New4.yN New4.yB 6 none)) (wks q3 (.initialized New4.yN.cls :: New4.site))
  have q4 : ∀ w ∈ New4.tab :: words, w.before a s = true := fun w hw => (List.mem_cons.mp hw).elim (fun e => e ▸ h4) (h w)
  exact unparts (wk q4 (.code New1.yN New1.yB 2 none)) (wks q4 (.initialized New1.yN.cls :: New1.site))
/-- the words ride from the start Z to the walk's own state -/
theorem moved {Z s : State} {a0 args : Array Value} (hZ : Z.Warmed39 s.vm) (hw : ∀ d ∈ words, d.before a0 Z = true) : ∀ d ∈ words, d.before args s = true := fun d hd => by
  have q := hw d hd
  have t : ∀ d ∈ words, d = .arrayClass .byte ∨ (d.onTables && d.keepsFace) = true := by decide +kernel
  rcases t d hd with rfl | t
  · exact RoadKit.mvA hZ q
  · exact RoadKit.mv hZ q t
/-- WHAT COMES BACK, over the tables of the start Z: h the heap at the call, h' behind it -/
def Q (Z : State) (x : Addr) (A : Cell) (h : Heap) (v : Option Value) (h' : Heap) (L : List Loc) : Prop := v = none ∧ (∀ y ∈ L, y.base = x) ∧ RoadKit.Keep h h' [x] ∧ h'.size = h.size + 1 ∧ RoadKit.Exa Z h' x ST ∧ RoadKit.Fld Z h' x ST "value" "[B" (.ref h.size) ∧ RoadKit.Fld Z h' x ST "coder" "B" (.int 0) ∧
  (∃ V : Cell, RoadKit.Arr Z h' h.size V .byte ∧ V.vm = .none ∧ Z.vm.findClass "[B" = some V.cls ∧ V.slots.size = A.slots.size ∧ ∀ j, j < A.slots.size → V.slots[j]? = some (.int (lo8 (cv A j)))) ∧
  ∀ (O n d : String) (w : Value), RoadKit.Fld Z h x O n d w → RoadKit.slotOf Z O n d ≠ RoadKit.slotOf Z ST "value" "[B" → RoadKit.slotOf Z O n d ≠ RoadKit.slotOf Z ST "coder" "B" → RoadKit.Fld Z h' x O n d w
/-- **new String(chars) AT A CALL, IN THE ROAD'S FORM**: for specialBack behind newO: x the fresh String, b the char[] with the cell A -/
theorem back {p : Program} {l : Launch} {e : Env} {R : Room} {s : State} {args : Array Value} {below : List Frame} {len W : Nat} {Z : State} {a0 : Array Value} {h : Heap} (hZ : Z.Warmed39 s.vm) (hw : ∀ d ∈ words, d.before a0 Z = true) {kI : Nat} (wi : (Jvm.Cond.instantiable ST kI).before a0 Z = true)
    {x b : Addr} {A : Cell} {z : Int32} {v0 c0 : Value} (E : RoadKit.Exa Z h x ST) (V : RoadKit.Fld Z h x ST "value" "[B" v0) (C : RoadKit.Fld Z h x ST "coder" "B" c0) (K : RoadKit.Arr Z h b A .char) (hty : Typed .char A) (S : RoadKit.Sta Z h ST "COMPACT_STRINGS" "Z" (.int z)) (hz : ¬ z = 0)
    (l0 : 0 < A.slots.size) (l2 : A.slots.size ≤ 536870912) (hp : ∀ i, i < A.slots.size → ¬ 255 < cv A i) (hfr : 4 ≤ R.frames) (hlo : W + 65 ≤ R.locals) :
    Back l R p e below s args New1.yN len W (fun P a => a = #[.ref x, .ref b] ∧ P.U.heap = h ∧ P.cells + 1 ≤ R.cells ∧ P.slots + A.slots.size ≤ R.slots)
      (fun P _ v B => ∃ L, Q Z x A h v B.U.heap L ∧ B.locs = P.locs ++ L ∧ B.cells = P.cells + 1 ∧ B.slots = P.slots + A.slots.size) := by
  intro m meth c P g ig mk a X hg hsize hdg hW hn hp'
  obtain ⟨rfl, rfl, r1, r2⟩ := hp'
  have al : Z.vm.Alike P.U.vm := hZ.alike.trans X.warmed.alike
  obtain ⟨D, cfV, kV, iV, fV, hD, gV, stV, knV, obV, asV, slV⟩ := id V
  obtain ⟨D', cfC, kC, iC, fC, hD', gC, stC, -, -, asC, slC⟩ := id C
  cases hD.symm.trans hD'
  obtain ⟨D2, kD, e1, e2, e3, e4, e5⟩ := id E
  cases hD.symm.trans e1
  obtain ⟨c2, k2, i1, i2, i3, -⟩ := Cond.instantiable_spec wi
  cases e2.symm.trans i1
  cases e3.symm.trans i2
  obtain ⟨kU, u1, u2⟩ := al.2.2 _ _ e3
  have hB : Blank ST x D P.U := ⟨hD, ⟨knV, fun q hq => by rw [hq] at obV; cases obV⟩, by rw [al.findClass]; exact e2, kU, u1, by rw [u2]; exact i3, by rw [u2]; exact e5 i3⟩
  have F1 : Found ST "value" "[B" fV P.U := ⟨SBG.found_only al ⟨cfV, kV, iV, gV⟩, stV⟩
  have F2 : Found ST "coder" "B" fC P.U := ⟨SBG.found_only al ⟨cfC, kC, iC, gC⟩, stC⟩
  have hA : Ch b A P.U := ⟨⟨K.1, State.isArrayOf_alike al K.2.1, K.2.2, by omega⟩, hty⟩
  have hS : StaticIs P.U ST "COMPACT_STRINGS" "Z" (.int z) := by
    obtain ⟨cfS, iS, kS, fS, st, cS, t1, t2, t3, t4, t5, t6, t7⟩ := S
    exact StaticIs.there (s := { Z with heap := P.U.heap }) ⟨cfS, iS, kS, fS, st, cS, t1, t2, t3, t4, t5, (fun q => by rw [q] at t6; cases t6), t7⟩ al rfl
  obtain ⟨v, B, X', ⟨⟨hv, E', V', q1, q2, q3, q4, q5, q6, q7, q8, q9, q10, q11⟩, hl, hc, hs⟩, st⟩ := New1.pays x D fV fC b A z (tab_of (moved hZ hw)) hfr hlo m meth c P g ig mk _ X hg hsize hdg hW hn ⟨r1, r2, rfl, hB, F1, F2, hA, hS, hz, l0, l2, hp⟩
  have al' : Z.vm.Alike B.U.vm := hZ.alike.trans X'.warmed.alike
  have hsz : E'.slots.size = D.slots.size := by
    obtain ⟨-, -, -, kB, w1, w2, w3⟩ := q1
    obtain ⟨kB', y1, y2⟩ := al'.2.2 _ _ e3
    rw [q2.2.1] at w1
    cases w1.symm.trans y1
    rw [w3, e5 i3, y2]
  refine ⟨v, B, X', ⟨_, ⟨hv, ?_, ⟨by omega, fun y cy hy hn' => q10 y cy (by simpa using hn') hy, fun y cy hy => ?_⟩, q11, ⟨E', _, q1.1, by rw [q2.2.1]; exact e2, by rw [q2.2.1]; exact e3, by rw [q2.1]; exact obV, fun _ => by rw [hsz]; exact e5 i3⟩,
    ⟨E', cfV, kV, iV, fV, q1.1, gV, stV, by rw [q2.1]; exact knV, by rw [q2.1]; exact obV, by rw [q2.2.1]; exact asV, q3⟩, ⟨E', cfC, kC, iC, fC, q1.1, gC, stC, by rw [q2.1]; exact knV, by rw [q2.1]; exact obV, by rw [q2.2.1]; exact asC, q4⟩,
    ⟨V', ⟨q5.1, State.isArrayOf_alike al'.symm q5.2.1, q5.2.2.1⟩, q6, by rw [← al'.findClass]; exact q7, q8, fun j hj => by have := q9 j hj; rwa [Nat.zero_add] at this⟩, fun O n d w F n1 n2 => ?_⟩, hl, hc, hs⟩, st⟩
  · intro y hy
    simp only [List.mem_cons, List.not_mem_nil, or_false] at hy
    rcases hy with rfl | rfl <;> rfl
  · by_cases q : y = x
    · subst q
      cases hD.symm.trans hy
      exact ⟨E', q1.1, q2.2.1, q2.1, hsz⟩
    · exact ⟨cy, q10 y cy q hy, rfl, rfl, rfl⟩
  · obtain ⟨D3, cf, k, i, f, g1, g2, g3, g4, g5, g6, g7⟩ := F
    cases hD.symm.trans g1
    simp only [RoadKit.slotOf, g2, gV, gC, Option.map_some, Option.getD_some] at n1 n2
    exact ⟨E', cf, k, i, f, q1.1, g2, g3, by rw [q2.1]; exact g4, by rw [q2.1]; exact g5, by rw [q2.2.1]; exact g6, by rw [q2.2.2 f.slot (by simp [n1, n2])]; exact g7⟩
end StrChars.Road
namespace StrChars.Road
open Jvm Sem ClassFile Op Lib Jvm.Stand Jvm.Free Jvm.Free.XT
/-- WHAT COMES BACK, the byte[] as a list of values -/
def QA (Z : State) (x : Addr) (zn : Int32) (cs : List Int32) (h : Heap) (v : Option Value) (h' : Heap) (L : List Loc) : Prop := v = none ∧ (∀ y ∈ L, y.base = x) ∧ RoadKit.Keep h h' [x] ∧ h'.size = h.size + 1 ∧ RoadKit.Exa Z h' x ST ∧ RoadKit.Fld Z h' x ST "value" "[B" (.ref h.size) ∧ RoadKit.Fld Z h' x ST "coder" "B" (.int 0) ∧
  (∃ kb, Z.vm.findClass "[B" = some kb ∧ RoadKit.Arv Z h' h.size kb .byte zn (cs.map fun c => .int (lo8 c)) (.int 0)) ∧
  ∀ (O n d : String) (w : Value), RoadKit.Fld Z h x O n d w → RoadKit.slotOf Z O n d ≠ RoadKit.slotOf Z ST "value" "[B" → RoadKit.slotOf Z O n d ≠ RoadKit.slotOf Z ST "coder" "B" → RoadKit.Fld Z h' x O n d w
/-- **new String(chars) AT A CALL, THE ARRAYS AS LISTS**: the char[] at b holds cs, not empty, no char above 255 -/
theorem backArv {p : Program} {l : Launch} {e : Env} {R : Room} {s : State} {args : Array Value} {below : List Frame} {len W : Nat} {Z : State} {a0 : Array Value} {h : Heap} (hZ : Z.Warmed39 s.vm) (hw : ∀ d ∈ words, d.before a0 Z = true) {kI : Nat} (wi : (Jvm.Cond.instantiable ST kI).before a0 Z = true)
    {x b : Addr} {k : ClassId} {zn z : Int32} {cs : List Int32} {dv v0 c0 : Value} (E : RoadKit.Exa Z h x ST) (V : RoadKit.Fld Z h x ST "value" "[B" v0) (C : RoadKit.Fld Z h x ST "coder" "B" c0) (K : RoadKit.Arv Z h b k .char zn (cs.map Value.int) dv) (S : RoadKit.Sta Z h ST "COMPACT_STRINGS" "Z" (.int z)) (hz : ¬ z = 0)
    (hlen : zn.toNatClampNeg = cs.length) (h0 : 0 < cs.length) (hbig : cs.length ≤ 536870912) (hall : ∀ c ∈ cs, ¬ 255 < c) (hfr : 4 ≤ R.frames) (hlo : W + 65 ≤ R.locals) :
    Back l R p e below s args New1.yN len W (fun P a => a = #[.ref x, .ref b] ∧ P.U.heap = h ∧ P.cells + 1 ≤ R.cells ∧ P.slots + cs.length ≤ R.slots)
      (fun P _ v B => ∃ L, QA Z x zn cs h v B.U.heap L ∧ B.locs = P.locs ++ L ∧ B.cells = P.cells + 1 ∧ B.slots = P.slots + cs.length) := by
  obtain ⟨A, K1, K2, K3, K4, K5, K6⟩ := K
  have e : A.slots.size = cs.length := K3.trans hlen
  have hat : ∀ (i : Nat) (hi : i < cs.length), A.slots[i]? = some (.int cs[i]) := fun i hi => by rw [K5 i (by omega)]; simp [List.getD_eq_getElem?_getD, hi]
  have hcv : ∀ (i : Nat) (hi : i < cs.length), cv A i = cs[i] := fun i hi => by unfold cv; rw [hat i hi]
  have hty : Typed .char A := fun i v hv => by
    have hi : i < A.slots.size := (Array.getElem?_eq_some_iff.mp hv).1
    have q := K5 i hi
    rw [hv] at q
    rw [Option.some.inj q]
    exact K6 i hi
  refine Back.mono (back hZ hw wi E V C K1 hty S hz (by omega) (by omega) (fun i hi => by rw [hcv i (by omega)]; exact hall _ (List.getElem_mem _)) hfr hlo) (fun P a hp => ⟨hp.1, hp.2.1, hp.2.2.1, by rw [e]; exact hp.2.2.2⟩) (fun P a v B hp hq => ?_)
  obtain ⟨L, ⟨q1, q2, q3, q4, q5, q6, q7, ⟨V', v1, v2, v3, v4, v5⟩, q9⟩, hl, hc, hs⟩ := hq
  refine ⟨L, ⟨q1, q2, q3, q4, q5, q6, q7, ⟨V'.cls, v3, V', v1, rfl, by rw [v4, e, hlen], K4, fun i hi => ?_, fun i hi => ?_⟩, q9⟩, hl, hc, by rw [hs, e]⟩
  · have hi' : i < cs.length := by omega
    rw [v5 i (by omega), hcv i hi']; simp [List.getD_eq_getElem?_getD, hi']
  · have hi' : i < cs.length := by omega
    simp only [List.getD_eq_getElem?_getD, List.getElem?_map, List.getElem?_eq_getElem hi', Option.map_some, Option.getD_some]
    exact fits_lo8 _
end StrChars.Road
namespace StrChars.Road
open Jvm Sem ClassFile Op Lib Jvm.Stand Jvm.Free Jvm.Free.XT
/-- WHAT COMES BACK, in the writer's own shape -/
def QV (Z : State) (x : Addr) (N : Int32) (bs : List Int32) (h : Heap) (n0 : Nat) (v : Option Value) (h' : Heap) (L : List Loc) : Prop := v = none ∧ RoadKit.Fr n0 L ∧ RoadKit.Keep h h' [x] ∧ RoadKit.Exa Z h' x ST ∧ RoadKit.Fld Z h' x ST "coder" "B" (.int 0) ∧
  ∃ (t : Addr) (kb : ClassId), n0 ≤ t ∧ h.size ≤ t ∧ ¬ t = x ∧ RoadKit.Fld Z h' x ST "value" "[B" (.ref t) ∧ RoadKit.Arv Z h' t kb .byte N (bs.map Value.int) (.int 0)
/-- **new String(chars) AT A CALL, FOR THE WRITER**: a char[] of n known ints, each 0 to 255 -/
theorem backV {p : Program} {l : Launch} {e : Env} {R : Room} {s : State} {args : Array Value} {below : List Frame} {len W : Nat} {Z : State} {a0 : Array Value} {h : Heap} (hZ : Z.Warmed39 s.vm) (hw : ∀ d ∈ words, d.before a0 Z = true) {kI : Nat} (wi : (Jvm.Cond.instantiable ST kI).before a0 Z = true)
    {x b : Addr} {kC : ClassId} {cs bs : List Int32} {d v0 c0 : Value} {z N : Int32} {n n0 : Nat} (hx0 : n0 ≤ x) (hh0 : n0 ≤ h.size) (E : RoadKit.Exa Z h x ST) (V : RoadKit.Fld Z h x ST "value" "[B" v0) (C : RoadKit.Fld Z h x ST "coder" "B" c0) (K : RoadKit.Arv Z h b kC .char N (cs.map Value.int) d) (S : RoadKit.Sta Z h ST "COMPACT_STRINGS" "Z" (.int z)) (hz : ¬ z = 0)
    (hn : cs.length = n) (hN : N = Int32.ofNat n) (l0 : 0 < n) (l2 : n ≤ 4000) (hp : ∀ c ∈ cs, ¬ c < 0 ∧ ¬ (255 : Int32) < c) (hb : bs = cs.map (fun c => c.toInt8.toInt32)) (hfr : 4 ≤ R.frames) (hlo : W + 65 ≤ R.locals) :
    Back l R p e below s args (⟨"java/lang/String", "<init>", "([C)V"⟩ : MethodName) len W (fun P a => a = #[.ref x, .ref b] ∧ P.U.heap = h ∧ P.cells + 1 ≤ R.cells ∧ P.slots + n ≤ R.slots)
      (fun P _ v B => ∃ L, QV Z x N bs h n0 v B.U.heap L ∧ B.locs = P.locs ++ L ∧ B.cells = P.cells + 1 ∧ B.slots = P.slots + n) := by
  subst hn hN hb
  refine Back.mono (backArv hZ hw wi E V C K S hz (n32 (by omega)) l0 (by omega) (fun c hc => (hp c hc).2) hfr hlo) (fun P a hp => hp) (fun P a v B hp hq => ?_)
  obtain ⟨L, ⟨q1, q2, q3, q4, q5, q6, q7, ⟨kb, v1, v2⟩, q9⟩, hl, hc, hs⟩ := hq
  exact ⟨L, ⟨q1, fun y hy => by rw [q2 y hy]; exact hx0, q3, q5, q7, h.size, kb, hh0, Nat.le_refl _, Nat.ne_of_gt E.lt, q6, by rw [List.map_map]; exact v2⟩, hl, hc, hs⟩
end StrChars.Road
namespace StrChars
open Jvm Sem ClassFile Op Lib Jvm.Stand Jvm.Free.XT Jvm.Free.ALB Jvm.Free.JM Jvm.Free
open Jvm.Lib.Cold (StaticIs)
def hi8 (x : Int32) : Int32 := lo8 (x >>> ((8 : Int32) &&& 31))
/-- what StringUTF16.getChar makes of two bytes -/
def pairCh (u v : Int32) : Int32 := (((u &&& 255) <<< ((0 : Int32) &&& 31)) ||| ((v &&& 255) <<< ((8 : Int32) &&& 31))).toUInt32.toUInt16.toUInt32.toInt32
theorem shr0 (c : Int32) : c >>> ((0 : Int32) &&& 31) = c := by
  have e : ((0 : Int32) &&& 31) = 0 := by decide
  rw [e]
  apply Int32.toBitVec_inj.mp
  rw [Int32.toBitVec_shiftRight]
  have e1 : ((0 : Int32).toBitVec.smod 32) = 0#32 := by decide
  rw [e1, BitVec.sshiftRight_eq']
  exact BitVec.sshiftRight_zero
theorem lo8_and (x : Int32) : (lo8 x &&& 255).toBitVec.toNat = x.toBitVec.toNat % 256 := by
  have h : (lo8 x).toBitVec = (x.toBitVec.signExtend 8).signExtend 32 := by rw [lo8, Int8.toBitVec_toInt32, Int32.toBitVec_toInt8]
  rw [Int32.toBitVec_and, BitVec.toNat_and, h]
  have e : ((x.toBitVec.signExtend 8).signExtend 32).toNat % 256 = x.toBitVec.toNat % 256 := by
    rw [BitVec.toNat_signExtend]
    have hlt := x.toBitVec.isLt
    simp only [BitVec.toNat_setWidth, BitVec.toNat_signExtend]
    split <;> split <;> omega
  rw [← e]
  exact Nat.and_two_pow_sub_one_eq_mod _ 8
theorem pair_says {c : Int32} (h0 : ¬ c < 0) (h1 : ¬ 65535 < c) : pairCh (lo8 c) (hi8 c) = c := by
  rw [Int32.lt_iff_toInt_lt] at h0 h1
  have e0 : (0 : Int32).toInt = 0 := rfl
  have e1 : (65535 : Int32).toInt = 65535 := rfl
  have hc : c.toInt = c.toBitVec.toNat := by
    have := c.toBitVec.isLt
    have e : c.toInt = c.toBitVec.toInt := rfl
    rw [e] at h0 h1
    rw [e]
    rw [BitVec.toInt_eq_toNat_cond] at h0 h1 ⊢
    split at h0 <;> split <;> omega
  have hn : c.toBitVec.toNat < 65536 := by omega
  have a1 := lo8_and c
  have a2 : (hi8 c &&& 255).toBitVec.toNat = c.toBitVec.toNat / 256 := by
    rw [hi8, lo8_and]
    have e : ((8 : Int32) &&& 31) = 8 := by decide
    rw [e, Int32.toBitVec_shiftRight]
    have e2 : ((8 : Int32).toBitVec.smod 32) = 8#32 := by decide
    rw [e2, BitVec.sshiftRight_eq', BitVec.toNat_sshiftRight_of_msb_false (by rw [BitVec.msb_eq_false_iff_two_mul_lt]; omega)]
    show c.toBitVec.toNat >>> 8 % 256 = _
    rw [Nat.shiftRight_eq_div_pow]
    omega
  unfold pairCh
  apply Int32.toBitVec_inj.mp
  apply BitVec.eq_of_toNat_eq
  have f0 : ((0 : Int32) &&& 31) = 0 := by decide
  have f8 : ((8 : Int32) &&& 31) = 8 := by decide
  rw [f0, f8]
  have g : (((lo8 c &&& 255) <<< (0 : Int32)) ||| ((hi8 c &&& 255) <<< (8 : Int32))).toBitVec.toNat = c.toBitVec.toNat := by
    rw [Int32.toBitVec_or, Int32.toBitVec_shiftLeft, Int32.toBitVec_shiftLeft]
    have s0 : ((0 : Int32).toBitVec.smod 32) = 0#32 := by decide
    have s8 : ((8 : Int32).toBitVec.smod 32) = 8#32 := by decide
    rw [s0, s8, BitVec.toNat_or]
    simp only [BitVec.shiftLeft_eq', BitVec.toNat_shiftLeft, a1, a2]
    show (c.toBitVec.toNat % 256) <<< 0 % 2 ^ 32 ||| (c.toBitVec.toNat / 256) <<< 8 % 2 ^ 32 = _
    rw [Nat.shiftLeft_zero, Nat.mod_eq_of_lt (show c.toBitVec.toNat % 256 < 2 ^ 32 by omega), Nat.mod_eq_of_lt (show (c.toBitVec.toNat / 256) <<< 8 < 2 ^ 32 by rw [Nat.shiftLeft_eq]; omega), Nat.or_comm, ← Nat.shiftLeft_add_eq_or_of_lt (by omega), Nat.shiftLeft_eq]
    omega
  show BitVec.toNat (((((lo8 c &&& 255) <<< (0 : Int32)) ||| ((hi8 c &&& 255) <<< (8 : Int32))).toBitVec.setWidth 16).setWidth 32) = _
  rw [BitVec.toNat_setWidth, BitVec.toNat_setWidth, g]
  omega
end StrChars
namespace StrChars
open Jvm Sem ClassFile Op Lib Jvm.Stand Jvm.Free.XT Jvm.Free.ALB Jvm.Free.JM Jvm.Free
open Jvm.Lib.Cold (StaticIs)
theorem shr1 {n : Nat} (h : 2 * n < 2 ^ 31) : Int32.ofNat (2 * n) >>> ((1 : Int32) &&& 31) = Int32.ofNat n := by
  have e : ((1 : Int32) &&& 31) = 1 := by decide
  rw [e]
  apply Int32.toBitVec_inj.mp
  rw [Int32.toBitVec_shiftRight]
  have e1 : ((1 : Int32).toBitVec.smod 32) = 1#32 := by decide
  have hm : (BitVec.ofNat 32 (2 * n)).toNat = 2 * n := by rw [BitVec.toNat_ofNat, Nat.mod_eq_of_lt (by omega)]
  rw [e1, BitVec.sshiftRight_eq']
  apply BitVec.eq_of_toNat_eq
  show ((BitVec.ofNat 32 (2 * n)).sshiftRight 1).toNat = (BitVec.ofNat 32 n).toNat
  rw [BitVec.toNat_sshiftRight_of_msb_false (by rw [BitVec.msb_eq_false_iff_two_mul_lt, hm]; omega), hm, BitVec.toNat_ofNat, Nat.shiftRight_eq_div_pow]
  omega
/-- charAt's cast of a byte read back -/
def chr8 (u : Int32) : Int32 := (u &&& 255).toUInt32.toUInt16.toUInt32.toInt32
theorem chr8_lo8 {c : Int32} (h0 : ¬ c < 0) (h1 : ¬ 255 < c) : chr8 (lo8 c) = c := by
  have t : ∀ k : Fin 256, (Int32.ofNat k.val).toUInt32.toUInt16.toUInt32.toInt32 = Int32.ofNat k.val := by decide +kernel
  unfold chr8
  rw [lo8_mask h0 h1]
  rw [Int32.lt_iff_toInt_lt] at h0 h1
  have e0 : (0 : Int32).toInt = 0 := rfl
  have e1 : (255 : Int32).toInt = 255 := rfl
  obtain ⟨k, hk⟩ : ∃ k : Nat, c.toInt = k := ⟨c.toInt.toNat, by omega⟩
  have hx : c = Int32.ofNat k := Int32.toInt_inj.mp (by rw [hk, Int32.toInt_ofNat_small (by omega)])
  rw [hx]
  exact t ⟨k, by omega⟩
theorem narrow_ch {c : Int32} (h0 : ¬ c < 0) (h1 : ¬ 65535 < c) : narrow .char (.int c) = .int c := by
  have q : narrow .char (.int (pairCh (lo8 c) (hi8 c))) = .int (pairCh (lo8 c) (hi8 c)) := narrow_c _
  rwa [pair_says h0 h1] at q
/-- the array's cell V codes the n chars f 0 .. f (n - 1) by the coder cd, as the JDK does: coder 1 just where some char is above 255 -/
def Cod (cd : Int32) (n : Nat) (f : Nat → Int32) (V : Cell) : Prop := (cd = 0 ∧ V.slots.size = n ∧ ∀ j, j < n → V.slots[j]? = some (.int (lo8 (f j))) ∧ ¬ 255 < f j) ∨ (cd = 1 ∧ V.slots.size = 2 * n ∧ (∀ j, j < n → V.slots[2 * j]? = some (.int (lo8 (f j))) ∧ V.slots[2 * j + 1]? = some (.int (hi8 (f j)))) ∧ ∃ j, j < n ∧ 255 < f j)
theorem Cod.cd {cd : Int32} {n : Nat} {f : Nat → Int32} {V : Cell} (h : Cod cd n f V) : cd = 0 ∨ cd = 1 := h.imp (fun q => q.1) fun q => q.1
theorem Cod.len {cd : Int32} {n : Nat} {f : Nat → Int32} {V : Cell} (h : Cod cd n f V) (hs : V.slots.size < 2 ^ 31) : Int32.ofNat V.slots.size >>> (cd &&& 31) = Int32.ofNat n := by
  rcases h with ⟨rfl, h, -⟩ | ⟨rfl, h, -⟩
  · rw [shr0, h]
  · rw [h, shr1 (by omega)]
/-- **x is a String of the n chars f 0 .. f (n - 1)**, Latin-1 or UTF-16; its array at t has the cell V -/
def Txt (x t : Addr) (V : Cell) (cd : Int32) (n : Nat) (f : Nat → Int32) (U : State) : Prop := Exact "java/lang/String" x U ∧ Has x "java/lang/String" "value" "[B" (.ref t) U ∧ Has x "java/lang/String" "coder" "B" (.int cd) U ∧ XT.Arr .byte t V U ∧ Cod cd n f V ∧ ∀ j, j < n → ¬ f j < 0 ∧ ¬ 65535 < f j
theorem Txt.mv {x t : Addr} {V : Cell} {cd : Int32} {n : Nat} {f : Nat → Int32} {U U' : State} (h : Txt x t V cd n f U) (hal : U.vm.Alike U'.vm) (hh : U'.heap = U.heap) : Txt x t V cd n f U' := ⟨h.1.mv hal hh, h.2.1.mv hal hh, h.2.2.1.mv hal hh, h.2.2.2.1.mv hal hh, h.2.2.2.2⟩
namespace Cdr
def yN : MethodName := ⟨"java/lang/String", "coder", "()B"⟩
abbrev yB : ByteArray := jdk_42_method_152_code
theorem d0 : decode yB 0 = .ok (.getstatic 38, 3) := by decide +kernel
theorem d3 : decode yB 3 = .ok (.ifCond (.eq) 10, 3) := by decide +kernel
theorem d6 : decode yB 6 = .ok (.aload_n 0, 1) := by decide +kernel
theorem d7 : decode yB 7 = .ok (.getfield 15, 3) := by decide +kernel
theorem d10 : decode yB 10 = .ok (.goto 4, 3) := by decide +kernel
theorem d14 : decode yB 14 = .ok (.ireturn, 1) := by decide +kernel
def site : List Cond := [.fieldLink "java/lang/String" 38 "java/lang/String" "COMPACT_STRINGS" "Z", .fieldLink "java/lang/String" 15 "java/lang/String" "coder" "B"]
def tab : Cond := tabOf yN yB 1 (some .byte) site
def P (x : Addr) (cd z : Int32) (args : Array Value) (s : State) : Prop := args = #[.ref x] ∧ Has x "java/lang/String" "coder" "B" (.int cd) s ∧ (cd = 0 ∨ cd = 1) ∧ StaticIs s "java/lang/String" "COMPACT_STRINGS" "Z" (.int z) ∧ ¬ z = 0
def E (cd : Int32) (r : Option Value) (s u : State) : Prop := XT.PureE (some (.int cd)) r s u
theorem law (l : Launch) (x : Addr) (cd z : Int32) : Law l yN 1 0 0 0 yB 1 (some .byte) site (P x cd z) (E cd) [] 0 0 := by
  refine Law.of_walk (plainFor_of_name (by decide +kernel)) (by decide +kernel) (by decide +kernel) (by decide) (fun _ _ h => by rw [h.1]; rfl) (fun _ U U' hal hh h => ⟨h.1, h.2.1.mv hal hh, h.2.2.1, h.2.2.2.1.there hal hh, h.2.2.2.2⟩) (fun r U U' V V' h1 hal h2 h => XT.PureE.mv r U U' V V' h1 hal h2 h) ?_
  intro p e s m args below meth c s₁ X0 hexec hbytes hml hret hlk hnm hown hh0 W hP
  obtain ⟨rfl, hx, hc, s1, hz⟩ := hP
  have c1 : Steps p.tables e below (s₁.setTop (entryFrame m #[.ref x] 1)) (s₁.setTop (mkF m 0 #[.val (.ref x)] [])) := entry rfl
  obtain ⟨T2, X2, q2, st2⟩ := X0.sget hexec hown (wk W (.fieldLink "java/lang/String" 38 "java/lang/String" "COMPACT_STRINGS" "Z")) s1 (fun _ _ h => by rw [hh0]; exact h) (g := (mkF m 0 #[.val (.ref x)] [])) rfl (hb hbytes d0)
  have hh2 := q2.trans hh0
  have c3 : Steps p.tables e below (s₁.setTop (entryFrame m #[.ref x] 1)) (T2.setTop (mkF m 7 #[.val (.ref x)] [.ref x])) := (c1.trans (st2 _ (Steps.refl _))).trans (by
    refine XS.ifNo X2.here hexec rfl (hb hbytes d3) rfl (i0_eq_f hz) ?_
    refine XS.aloadN X2.here hexec rfl (hb hbytes d6) rfl rfl ?_
    exact Steps.refl _)
  obtain ⟨T4, X4, q4, st4⟩ := X2.hget hexec hown (wk W (.fieldLink "java/lang/String" 15 "java/lang/String" "coder" "B")) (hx.mv X2.warmed.alike hh2) (g := (mkF m 7 #[.val (.ref x)] [.ref x])) rfl (rest := []) rfl (hb hbytes d7)
  have c5 : Steps p.tables e below (s₁.setTop (entryFrame m #[.ref x] 1)) (T4.setTop (mkF m 14 #[.val (.ref x)] [.int cd])) := (c3.trans (st4 _ (Steps.refl _))).trans (by
    refine XS.goto X4.here hexec rfl (pc0 := 10) rfl (hb hbytes d10) (by decide) rfl ?_
    exact Steps.refl _)
  exact ⟨T4, some (.int cd), _, _, _, X4, rfl, rfl, rfl, (fun h => by cases h), ⟨rfl, q4.trans hh2⟩, fun fs hl => c5.trans (X4.ireturnOut hexec hret (by rcases hc with rfl | rfl <;> rfl) (Or.inr (Or.inr (Or.inl rfl))) (hb hbytes d14) hl)⟩
end Cdr
namespace Len
def yN : MethodName := ⟨"java/lang/String", "length", "()I"⟩
abbrev yB : ByteArray := jdk_42_method_54_code
theorem d0 : decode yB 0 = .ok (.aload_n 0, 1) := by decide +kernel
theorem d1 : decode yB 1 = .ok (.getfield 9, 3) := by decide +kernel
theorem d4 : decode yB 4 = .ok (.arraylength, 1) := by decide +kernel
theorem d5 : decode yB 5 = .ok (.aload_n 0, 1) := by decide +kernel
theorem d6 : decode yB 6 = .ok (.invokevirtual 335, 3) := by decide +kernel
theorem d9 : decode yB 9 = .ok (.ishr, 1) := by decide +kernel
theorem d10 : decode yB 10 = .ok (.ireturn, 1) := by decide +kernel
def site : List Cond := [.fieldLink "java/lang/String" 9 "java/lang/String" "value" "[B", Cdr.tab] ++ virtW "java/lang/String" 335 "java/lang/String" Cdr.yN Cdr.yN
def tab : Cond := tabOf yN yB 1 (some .int) site
def P (x t : Addr) (V : Cell) (cd : Int32) (n : Nat) (f : Nat → Int32) (z : Int32) (args : Array Value) (s : State) : Prop := args = #[.ref x] ∧ Txt x t V cd n f s ∧ StaticIs s "java/lang/String" "COMPACT_STRINGS" "Z" (.int z) ∧ ¬ z = 0
def E (n : Nat) (r : Option Value) (s u : State) : Prop := XT.PureE (some (.int (Int32.ofNat n))) r s u
/-- length() of a String of n chars, in either coding -/
theorem law (l : Launch) (x t : Addr) (V : Cell) (cd : Int32) (n : Nat) (f : Nat → Int32) (z : Int32) : Law l yN 1 0 1 13 yB 1 (some .int) site (P x t V cd n f z) (E n) [] 0 0 := by
  refine Law.of_walk (plainFor_of_name (by decide +kernel)) (by decide +kernel) (by decide +kernel) (by decide) (fun _ _ h => by rw [h.1]; rfl) (fun _ U U' hal hh h => ⟨h.1, h.2.1.mv hal hh, h.2.2.1.there hal hh, h.2.2.2⟩) (fun r U U' V V' h1 hal h2 h => XT.PureE.mv r U U' V V' h1 hal h2 h) ?_
  intro p e s m args below meth c s₁ X0 hexec hbytes hml hret hlk hnm hown hh0 W hP
  obtain ⟨rfl, hx, s1, hz⟩ := hP
  have v31 := hx.2.2.2.1.2.2.2
  have c1 : Steps p.tables e below (s₁.setTop (entryFrame m #[.ref x] 1)) (s₁.setTop (mkF m 1 #[.val (.ref x)] [.ref x])) := Steps.trans (entry rfl) (by
    show Steps p.tables e below (s₁.setTop (mkF m 0 #[.val (.ref x)] [])) _
    refine XS.aloadN X0.here hexec rfl (hb hbytes d0) rfl rfl ?_
    exact Steps.refl _)
  obtain ⟨T2, X2, q2, st2⟩ := X0.hget hexec hown (wk W (.fieldLink "java/lang/String" 9 "java/lang/String" "value" "[B")) (hx.mv X0.warmed.alike hh0).2.1 (g := (mkF m 1 #[.val (.ref x)] [.ref x])) rfl (rest := []) rfl (hb hbytes d1)
  have hh2 := q2.trans hh0
  have hx2 := hx.mv X2.warmed.alike hh2
  have c3 : Steps p.tables e below (s₁.setTop (entryFrame m #[.ref x] 1)) (T2.setTop (mkF m 6 #[.val (.ref x)] [.ref x, .int (Int32.ofNat V.slots.size)])) := (c1.trans (st2 _ (Steps.refl _))).trans (by
    refine X2.alen hexec hx2.2.2.2.1 rfl rfl (hb hbytes d4) ?_
    refine XS.aloadN X2.here hexec rfl (hb hbytes d5) rfl rfl ?_
    exact Steps.refl _)
  obtain ⟨v4, T4, X4, E4, g4⟩ := X2.callV hexec (Cdr.law l x cd z) hown (wks W (virtW "java/lang/String" 335 "java/lang/String" Cdr.yN Cdr.yN)) rfl (by decide) (wk W Cdr.tab) (W := 1) (Nat.le_of_ble_eq_true rfl) (Nat.le_of_ble_eq_true rfl) (Nat.le_refl _) (Nat.le_refl _) (hx2.1.fc X2.warmed.alike) hx2.1.is (g := (mkF m 6 #[.val (.ref x)] [.ref x, .int (Int32.ofNat V.slots.size)])) rfl (by rw [hml]; rfl) c3 (argsL := []) (rest := [.int (Int32.ofNat V.slots.size)]) rfl rfl (by show 2 * 0 + (1 + 0) ≤ _; decide) (hb hbytes d6) (⟨rfl, hx2.2.2.1, hx.2.2.2.2.1.cd, s1.there X2.warmed.alike hh2, hz⟩)
  obtain ⟨rfl, q4⟩ := E4
  have c5 : Steps p.tables e below (s₁.setTop (entryFrame m #[.ref x] 1)) (T4.setTop (mkF m 10 #[.val (.ref x)] [.int (Int32.ofNat V.slots.size >>> (cd &&& 31))])) := Steps.trans g4 (by
    refine ishr X4.here hexec rfl (hb hbytes d9) rfl ?_
    exact Steps.refl _)
  rw [hx.2.2.2.2.1.len v31] at c5
  exact ⟨T4, some (.int (Int32.ofNat n)), _, _, _, X4, rfl, rfl, rfl, (fun h => by cases h), ⟨rfl, q4.trans hh2⟩, fun fs hl => c5.trans (X4.ireturnOut hexec hret rfl (Or.inl rfl) (hb hbytes d10) hl)⟩
theorem pays {l : Launch} {R : Room} {p : Program} {e : Env} {below : List Frame} {s : State} {sargs : Array Value} {len W : Nat} (x t : Addr) (V : Cell) (cd : Int32) (n : Nat) (f : Nat → Int32) (z : Int32) (htab : tab.before sargs s = true) (hfr : 2 ≤ R.frames) (hlo : W + 25 ≤ R.locals) :
    Back l R p e below s sargs yN len W (fun A₁ a₁ => A₁.cells + 0 ≤ R.cells ∧ A₁.slots + 0 ≤ R.slots ∧ P x t V cd n f z a₁ A₁.U) (fun A₁ _ v₁ B₁ => E n v₁ A₁.U B₁.U ∧ B₁.locs = A₁.locs ++ [] ∧ B₁.cells = A₁.cells + 0 ∧ B₁.slots = A₁.slots + 0) :=
  (law l x t V cd n f z).pays htab hfr (by omega)
end Len
namespace IsL
def yN : MethodName := ⟨"java/lang/String", "isLatin1", "()Z"⟩
abbrev yB : ByteArray := jdk_42_method_154_code
theorem d0 : decode yB 0 = .ok (.getstatic 38, 3) := by decide +kernel
theorem d3 : decode yB 3 = .ok (.ifCond (.eq) 14, 3) := by decide +kernel
theorem d6 : decode yB 6 = .ok (.aload_n 0, 1) := by decide +kernel
theorem d7 : decode yB 7 = .ok (.getfield 15, 3) := by decide +kernel
theorem d10 : decode yB 10 = .ok (.ifCond (.ne) 7, 3) := by decide +kernel
theorem d13 : decode yB 13 = .ok (.iconst 1, 1) := by decide +kernel
theorem d14 : decode yB 14 = .ok (.goto 4, 3) := by decide +kernel
theorem d17 : decode yB 17 = .ok (.iconst 0, 1) := by decide +kernel
theorem d18 : decode yB 18 = .ok (.ireturn, 1) := by decide +kernel
def site : List Cond := [.fieldLink "java/lang/String" 38 "java/lang/String" "COMPACT_STRINGS" "Z", .fieldLink "java/lang/String" 15 "java/lang/String" "coder" "B"]
def tab : Cond := tabOf yN yB 1 (some .boolean) site
def P (x : Addr) (cd z : Int32) (args : Array Value) (s : State) : Prop := args = #[.ref x] ∧ Has x "java/lang/String" "coder" "B" (.int cd) s ∧ (cd = 0 ∨ cd = 1) ∧ StaticIs s "java/lang/String" "COMPACT_STRINGS" "Z" (.int z) ∧ ¬ z = 0
def E (cd : Int32) (r : Option Value) (s u : State) : Prop := XT.PureE (some (.int (1 - cd))) r s u
theorem law (l : Launch) (x : Addr) (cd z : Int32) : Law l yN 1 0 0 0 yB 1 (some .boolean) site (P x cd z) (E cd) [] 0 0 := by
  refine Law.of_walk (plainFor_of_name (by decide +kernel)) (by decide +kernel) (by decide +kernel) (by decide) (fun _ _ h => by rw [h.1]; rfl) (fun _ U U' hal hh h => ⟨h.1, h.2.1.mv hal hh, h.2.2.1, h.2.2.2.1.there hal hh, h.2.2.2.2⟩) (fun r U U' V V' h1 hal h2 h => XT.PureE.mv r U U' V V' h1 hal h2 h) ?_
  intro p e s m args below meth c s₁ X0 hexec hbytes hml hret hlk hnm hown hh0 W hP
  obtain ⟨rfl, hx, hc, s1, hz⟩ := hP
  have c1 : Steps p.tables e below (s₁.setTop (entryFrame m #[.ref x] 1)) (s₁.setTop (mkF m 0 #[.val (.ref x)] [])) := entry rfl
  obtain ⟨T2, X2, q2, st2⟩ := X0.sget hexec hown (wk W (.fieldLink "java/lang/String" 38 "java/lang/String" "COMPACT_STRINGS" "Z")) s1 (fun _ _ h => by rw [hh0]; exact h) (g := (mkF m 0 #[.val (.ref x)] [])) rfl (hb hbytes d0)
  have hh2 := q2.trans hh0
  have c3 : Steps p.tables e below (s₁.setTop (entryFrame m #[.ref x] 1)) (T2.setTop (mkF m 7 #[.val (.ref x)] [.ref x])) := (c1.trans (st2 _ (Steps.refl _))).trans (by
    refine XS.ifNo X2.here hexec rfl (hb hbytes d3) rfl (i0_eq_f hz) ?_
    refine XS.aloadN X2.here hexec rfl (hb hbytes d6) rfl rfl ?_
    exact Steps.refl _)
  obtain ⟨T4, X4, q4, st4⟩ := X2.hget hexec hown (wk W (.fieldLink "java/lang/String" 15 "java/lang/String" "coder" "B")) (hx.mv X2.warmed.alike hh2) (g := (mkF m 7 #[.val (.ref x)] [.ref x])) rfl (rest := []) rfl (hb hbytes d7)
  have c5 : Steps p.tables e below (s₁.setTop (entryFrame m #[.ref x] 1)) (T4.setTop (mkF m 10 #[.val (.ref x)] [.int cd])) := c3.trans (st4 _ (Steps.refl _))
  have c6 : Steps p.tables e below (s₁.setTop (entryFrame m #[.ref x] 1)) (T4.setTop (mkF m 18 #[.val (.ref x)] [.int (1 - cd)])) := by
    rcases hc with rfl | rfl
    · exact c5.trans (by
        refine XS.ifNo X4.here hexec rfl (hb hbytes d10) rfl (i0_ne_f rfl) ?_
        refine iconstV X4.here hexec rfl 1 (hb hbytes d13) (by decide) ?_
        refine XS.goto X4.here hexec rfl (pc0 := 14) rfl (hb hbytes d14) (by decide) rfl ?_
        exact Steps.refl _)
    · exact c5.trans (by
        refine XS.ifYes X4.here hexec rfl (pc0 := 10) rfl (hb hbytes d10) rfl (i0_ne_t (by decide)) (by decide) rfl ?_
        refine iconstV X4.here hexec rfl 0 (hb hbytes d17) (by decide) ?_
        exact Steps.refl _)
  exact ⟨T4, some (.int (1 - cd)), _, _, _, X4, rfl, rfl, rfl, (fun h => by cases h), ⟨rfl, q4.trans hh2⟩, fun fs hl => c6.trans (X4.ireturnOut hexec hret (by rcases hc with rfl | rfl <;> rfl) (Or.inr (Or.inl rfl)) (hb hbytes d18) hl)⟩
end IsL
namespace LChA
def yN : MethodName := ⟨"java/lang/StringLatin1", "charAt", "([BI)C"⟩
abbrev yB : ByteArray := jdk_43_method_2_code
theorem d0 : decode yB 0 = .ok (.iload_n 1, 1) := by decide +kernel
theorem d1 : decode yB 1 = .ok (.aload_n 0, 1) := by decide +kernel
theorem d2 : decode yB 2 = .ok (.arraylength, 1) := by decide +kernel
theorem d3 : decode yB 3 = .ok (.invokestatic 9, 3) := by decide +kernel
theorem d6 : decode yB 6 = .ok (.aload_n 0, 1) := by decide +kernel
theorem d7 : decode yB 7 = .ok (.iload_n 1, 1) := by decide +kernel
theorem d8 : decode yB 8 = .ok (.baload, 1) := by decide +kernel
theorem d9 : decode yB 9 = .ok (.sipush 255, 3) := by decide +kernel
theorem d12 : decode yB 12 = .ok (.iand, 1) := by decide +kernel
theorem d13 : decode yB 13 = .ok (.i2c, 1) := by decide +kernel
theorem d14 : decode yB 14 = .ok (.ireturn, 1) := by decide +kernel
def site : List Cond := [JO.Str_checkIndex.tab] ++ staticW "java/lang/StringLatin1" 9 JO.Str_checkIndex.yN
def tab : Cond := tabOf yN yB 2 (some .char) site
def P (t : Addr) (V : Cell) (i : Nat) (u : Int32) (fm : Value) (args : Array Value) (s : State) : Prop := args = #[.ref t, .int (Int32.ofNat i)] ∧ XT.Arr .byte t V s ∧ V.slots[i]? = some (.int u) ∧ (StaticIs s "jdk/internal/util/Preconditions" "SIOOBE_FORMATTER" "Ljava/util/function/BiFunction;" fm ∧ fm.isRef = true)
def E (u : Int32) (r : Option Value) (s w : State) : Prop := XT.PureE (some (.int (chr8 u))) r s w
theorem law (l : Launch) (t : Addr) (V : Cell) (i : Nat) (u : Int32) (fm : Value) : Law l yN 2 2 2 27 yB 2 (some .char) site (P t V i u fm) (E u) [] 0 0 := by
  refine Law.of_walk (plainFor_of_name (by decide +kernel)) (by decide +kernel) (by decide +kernel) (by decide) (fun _ _ h => by rw [h.1]; rfl) (fun _ U U' hal hh h => ⟨h.1, h.2.1.mv hal hh, h.2.2.1, h.2.2.2.1.there hal hh, h.2.2.2.2⟩) (fun r U U' V V' h1 hal h2 h => XT.PureE.mv r U U' V V' h1 hal h2 h) ?_
  intro p e s m args below meth c s₁ X0 hexec hbytes hml hret hlk hnm hown hh0 W hP
  obtain ⟨rfl, hV, hu, s1, rf⟩ := hP
  have v31 := hV.2.2.2
  have hi : i < V.slots.size := (Array.getElem?_eq_some_iff.mp hu).1
  have c1 : Steps p.tables e below (s₁.setTop (entryFrame m #[.ref t, .int (Int32.ofNat i)] 2)) (s₁.setTop (mkF m 0 #[.val (.ref t), .val (.int (Int32.ofNat i))] [])) := entry rfl
  have c2 : Steps p.tables e below (s₁.setTop (entryFrame m #[.ref t, .int (Int32.ofNat i)] 2)) (s₁.setTop (mkF m 3 #[.val (.ref t), .val (.int (Int32.ofNat i))] [.int (Int32.ofNat V.slots.size), .int (Int32.ofNat i)])) := c1.trans (by
    refine XS.iloadN X0.here hexec rfl (hb hbytes d0) rfl ?_
    refine XS.aloadN X0.here hexec rfl (hb hbytes d1) rfl rfl ?_
    refine X0.alen hexec (hV.mv X0.warmed.alike hh0) rfl rfl (hb hbytes d2) ?_
    exact Steps.refl _)
  obtain ⟨v3, T3, X3, E3, g3⟩ := X0.callS hexec (JO.Str_checkIndex.law l (Int32.ofNat i) (Int32.ofNat V.slots.size) fm) hown (wks W (staticW "java/lang/StringLatin1" 9 JO.Str_checkIndex.yN)) (wk W JO.Str_checkIndex.tab) (W := 0) (Nat.le_of_ble_eq_true rfl) (Nat.le_of_ble_eq_true rfl) (Nat.le_refl _) (Nat.le_refl _) (g := (mkF m 3 #[.val (.ref t), .val (.int (Int32.ofNat i))] [.int (Int32.ofNat V.slots.size), .int (Int32.ofNat i)])) rfl (by rw [hml]; rfl) c2 (argsL := [.int (Int32.ofNat i), .int (Int32.ofNat V.slots.size)]) (rest := []) rfl rfl (by show 2 * 0 + 0 ≤ _; decide) (hb hbytes d3) (⟨rfl, rf, s1.there X0.warmed.alike hh0, Int32.ofNat_not_neg (by omega), lt32 v31 hi⟩)
  obtain ⟨rfl, q3⟩ := E3
  have hh3 := q3.trans hh0
  have c4 : Steps p.tables e below (s₁.setTop (entryFrame m #[.ref t, .int (Int32.ofNat i)] 2)) (T3.setTop (mkF m 14 #[.val (.ref t), .val (.int (Int32.ofNat i))] [.int (chr8 u)])) := Steps.trans g3 (by
    refine XS.aloadN X3.here hexec rfl (hb hbytes d6) rfl rfl ?_
    refine XS.iloadN X3.here hexec rfl (hb hbytes d7) rfl ?_
    refine X3.aget hexec (hV.mv X3.warmed.alike hh3) rfl hu rfl rfl (hb hbytes d8) ?_
    refine sipushV X3.here hexec rfl 255 (hb hbytes d9) (by decide) ?_
    refine XS.iand X3.here hexec rfl (hb hbytes d12) rfl ?_
    refine i2c X3.here hexec rfl (hb hbytes d13) rfl ?_
    exact Steps.refl _)
  exact ⟨T3, some (.int (chr8 u)), _, _, _, X3, rfl, rfl, rfl, (fun h => by cases h), ⟨rfl, hh3⟩, fun fs hl => c4.trans (X3.ireturnOut hexec hret (narrow_c _) (Or.inr (Or.inr (Or.inr (Or.inl rfl)))) (hb hbytes d14) hl)⟩
end LChA
end StrChars
namespace StrChars.Road
open Jvm Sem ClassFile Op Lib Jvm.Stand Jvm.Free Jvm.Free.XT
open Jvm.Lib.Cold (StaticIs)
theorem consq {a : Array Value} {s : State} {c : Jvm.Cond} {L : List Jvm.Cond} (h0 : c.before a s = true) (h : ∀ w ∈ L, w.before a s = true) : ∀ w ∈ c :: L, w.before a s = true := fun w hw => (List.mem_cons.mp hw).elim (fun e => e ▸ h0) (h w)
/-- the words of String.length(), either coding -/
abbrev wordsLen : List Jvm.Cond := [.code Len.yN Len.yB 1 (some .int), .initialized ST, .fieldLink ST 9 ST "value" "[B", .fieldLink ST 38 ST "COMPACT_STRINGS" "Z", .fieldLink ST 15 ST "coder" "B", .code Cdr.yN Cdr.yB 1 (some .byte), .methodLink ST 335 Cdr.yN, .declares Cdr.yN, .selects ST Cdr.yN Cdr.yN, .instanceMethod Cdr.yN]
theorem tabLen_of {a : Array Value} {s : State} (h : ∀ w ∈ wordsLen, w.before a s = true) : Len.tab.before a s = true := by
  have hc : Cdr.tab.before a s = true := unparts (wk h (.code Cdr.yN Cdr.yB 1 (some .byte))) (wks h (.initialized Cdr.yN.cls :: Cdr.site))
  have q := consq hc h
  exact unparts (wk q (.code Len.yN Len.yB 1 (some .int))) (wks q (.initialized Len.yN.cls :: Len.site))
theorem movedLen {Z s : State} {a0 args : Array Value} (hZ : Z.Warmed39 s.vm) (hw : ∀ d ∈ wordsLen, d.before a0 Z = true) : ∀ d ∈ wordsLen, d.before args s = true := fun d hd => by
  have q := hw d hd
  have t : ∀ d ∈ wordsLen, d = .arrayClass .byte ∨ (d.onTables && d.keepsFace) = true := by decide +kernel
  rcases t d hd with rfl | t
  · exact RoadKit.mvA hZ q
  · exact RoadKit.mv hZ q t
/-- the bytes of the chars cs, low before high -/
def wideBytes : List Int32 → List Value
  | [] => []
  | c :: cs => .int (lo8 c) :: .int (hi8 c) :: wideBytes cs
theorem wide_lo (d : Value) : ∀ (cs : List Int32) (j : Nat), j < cs.length → (wideBytes cs).getD (2 * j) d = .int (lo8 (cs.getD j 0))
  | [], j, h => absurd h (Nat.not_lt_zero j)
  | c :: cs, 0, _ => rfl
  | c :: cs, j + 1, h => by
    have q := wide_lo d cs j (by simpa using h)
    rw [show 2 * (j + 1) = 2 * j + 1 + 1 from by omega]
    simpa [wideBytes] using q
theorem wide_hi (d : Value) : ∀ (cs : List Int32) (j : Nat), j < cs.length → (wideBytes cs).getD (2 * j + 1) d = .int (hi8 (cs.getD j 0))
  | [], j, h => absurd h (Nat.not_lt_zero j)
  | c :: cs, 0, _ => rfl
  | c :: cs, j + 1, h => by
    have q := wide_hi d cs j (by simpa using h)
    rw [show 2 * (j + 1) + 1 = 2 * j + 1 + 1 + 1 from by omega]
    simpa [wideBytes] using q
theorem low_at (d : Value) (cs : List Int32) (j : Nat) (h : j < cs.length) : (cs.map fun c => Value.int (lo8 c)).getD j d = .int (lo8 (cs.getD j 0)) := by
  simp [List.getD_eq_getElem?_getD, h]
/-- an array of N2 bytes vs codes the chars cs by the coder cd -/
def CodA (cs : List Int32) (cd N2 : Int32) (vs : List Value) : Prop := (cd = 0 ∧ N2 = Int32.ofNat cs.length ∧ vs = (cs.map fun c => Value.int (lo8 c)) ∧ ∀ c ∈ cs, ¬ 255 < c) ∨ (cd = 1 ∧ N2 = Int32.ofNat (2 * cs.length) ∧ vs = wideBytes cs ∧ ∃ c ∈ cs, 255 < c)
theorem CodA.cod {cs : List Int32} {cd N2 : Int32} {vs : List Value} {V : Cell} (h : CodA cs cd N2 vs) (hn : 2 * cs.length < 2 ^ 31) (hs : V.slots.size = N2.toNatClampNeg) (hv : RoadKit.Has V vs (.int 0)) : Cod cd cs.length (fun j => cs.getD j 0) V := by
  rcases h with ⟨rfl, rfl, rfl, h⟩ | ⟨rfl, rfl, rfl, c, hc, hw⟩
  · rw [n32 (by omega)] at hs
    exact Or.inl ⟨rfl, hs, fun j hj => ⟨by rw [hv j (by omega), low_at _ _ _ hj], by
      have e : cs.getD j 0 = cs[j] := by simp [List.getD_eq_getElem?_getD, hj]
      show ¬ 255 < cs.getD j 0
      rw [e]; exact h _ (List.getElem_mem _)⟩⟩
  · rw [n32 (by omega)] at hs
    obtain ⟨j, hj, rfl⟩ := List.getElem_of_mem hc
    exact Or.inr ⟨rfl, hs, fun j hj => ⟨by rw [hv _ (by omega), wide_lo _ _ _ hj], by rw [hv _ (by omega), wide_hi _ _ _ hj]⟩, j, hj, by
      have e : cs.getD j 0 = cs[j] := by simp [List.getD_eq_getElem?_getD, hj]
      show 255 < cs.getD j 0
      rw [e]; exact hw⟩
/-- an object of exactly java/lang/String, its two fields found: as the laws ask it -/
theorem strObj {Z U : State} {a0 : Array Value} {kI : Nat} (wi : (Jvm.Cond.instantiable ST kI).before a0 Z = true) (al : Z.vm.Alike U.vm) {x : Addr} {v0 c0 : Value} (E : RoadKit.Exa Z U.heap x ST) (V : RoadKit.Fld Z U.heap x ST "value" "[B" v0) (C : RoadKit.Fld Z U.heap x ST "coder" "B" c0) :
    ∃ (D : Cell) (fV fC : Field), Blank ST x D U ∧ Found ST "value" "[B" fV U ∧ Found ST "coder" "B" fC U ∧ D.slots[fV.slot]? = some v0 ∧ D.slots[fC.slot]? = some c0 ∧ RoadKit.slotOf Z ST "value" "[B" = fV.slot ∧ RoadKit.slotOf Z ST "coder" "B" = fC.slot := by
  obtain ⟨D, cfV, kV, iV, fV, hD, gV, stV, knV, obV, asV, slV⟩ := V
  obtain ⟨D', cfC, kC, iC, fC, hD', gC, stC, -, -, asC, slC⟩ := C
  cases hD.symm.trans hD'
  obtain ⟨D2, kD, e1, e2, e3, e4, e5⟩ := E
  cases hD.symm.trans e1
  obtain ⟨c2, k2, i1, i2, i3, -⟩ := Cond.instantiable_spec wi
  cases e2.symm.trans i1
  cases e3.symm.trans i2
  obtain ⟨kU, u1, u2⟩ := al.2.2 _ _ e3
  exact ⟨D, fV, fC, ⟨hD, ⟨knV, fun q hq => by rw [hq] at obV; cases obV⟩, by rw [al.findClass]; exact e2, kU, u1, by rw [u2]; exact i3, by rw [u2]; exact e5 i3⟩, ⟨SBG.found_only al ⟨cfV, kV, iV, gV⟩, stV⟩, ⟨SBG.found_only al ⟨cfC, kC, iC, gC⟩, stC⟩, slV, slC, by simp [RoadKit.slotOf, gV], by simp [RoadKit.slotOf, gC]⟩
theorem sta_is {Z U : State} (al : Z.vm.Alike U.vm) {C n d : String} {v : Value} (S : RoadKit.Sta Z U.heap C n d v) : StaticIs U C n d v := by
  obtain ⟨cfS, iS, kS, fS, st, cS, t1, t2, t3, t4, t5, t6, t7⟩ := S
  exact StaticIs.there (s := { Z with heap := U.heap }) ⟨cfS, iS, kS, fS, st, cS, t1, t2, t3, t4, t5, (fun q => by rw [q] at t6; cases t6), t7⟩ al rfl
/-- **length() OF SUCH A STRING** -/
theorem lenW {p : Program} {l : Launch} {e : Env} {R : Room} {s : State} {args : Array Value} {below : List Frame} {len W : Nat} {Z : State} {a0 : Array Value} {h : Heap} (hZ : Z.Warmed39 s.vm) (hw : ∀ d ∈ wordsLen, d.before a0 Z = true) {kI : Nat} (wi : (Jvm.Cond.instantiable ST kI).before a0 Z = true)
    {x t : Addr} {kb : ClassId} {cs : List Int32} {cd N2 z : Int32} {vs : List Value} (E : RoadKit.Exa Z h x ST) (V : RoadKit.Fld Z h x ST "value" "[B" (.ref t)) (C : RoadKit.Fld Z h x ST "coder" "B" (.int cd)) (K : RoadKit.Arv Z h t kb .byte N2 vs (.int 0)) (hc : CodA cs cd N2 vs) (hb : ∀ c ∈ cs, ¬ c < 0 ∧ ¬ (65535 : Int32) < c)
    (S : RoadKit.Sta Z h ST "COMPACT_STRINGS" "Z" (.int z)) (hz : ¬ z = 0) (l2 : cs.length ≤ 4000) (hfr : 2 ≤ R.frames) (hlo : W + 25 ≤ R.locals) :
    Back l R p e below s args (⟨"java/lang/String", "length", "()I"⟩ : MethodName) len W (fun P a => a = #[.ref x] ∧ P.U.heap = h ∧ P.cells + 0 ≤ R.cells ∧ P.slots + 0 ≤ R.slots)
      (fun P _ v B => ∃ L, (v = some (.int (Int32.ofNat cs.length)) ∧ L = [] ∧ B.U.heap = h) ∧ B.locs = P.locs ++ L ∧ B.cells = P.cells + 0 ∧ B.slots = P.slots + 0) := by
  obtain ⟨A, K1, K2, K3, K4, K5, K6⟩ := K
  have hcod := hc.cod (by omega) K3 K5
  intro m meth c P g ig mk a X hg hsize hdg hW hn hp'
  obtain ⟨rfl, rfl, r1, r2⟩ := hp'
  have al : Z.vm.Alike P.U.vm := hZ.alike.trans X.warmed.alike
  obtain ⟨D, fV, fC, hB, F1, F2, g1, g2, -, -⟩ := strObj wi al E V C
  have hx : Txt x t A cd cs.length (fun j => cs.getD j 0) P.U := ⟨⟨_, hB.2.2.1, D, hB.1, rfl, by cases q : D.vm <;> first | rfl | exact absurd q (hB.2.1.2 _)⟩, Has.of hB F1 g1, Has.of hB F2 g2, ⟨K1.1, State.isArrayOf_alike al K1.2.1, K1.2.2, by rcases hcod with ⟨-, q, -⟩ | ⟨-, q, -⟩ <;> omega⟩, hcod, fun j hj => by
    have e : cs.getD j 0 = cs[j] := by simp [List.getD_eq_getElem?_getD, hj]
    show ¬ cs.getD j 0 < 0 ∧ ¬ 65535 < cs.getD j 0
    rw [e]; exact hb _ (List.getElem_mem _)⟩
  obtain ⟨v, B, X', ⟨⟨hv, hh⟩, hl, hk, hs⟩, st⟩ := Len.pays x t A cd cs.length (fun j => cs.getD j 0) z (tabLen_of (movedLen hZ hw)) hfr hlo m meth c P g ig mk _ X hg hsize hdg hW hn ⟨r1, r2, rfl, hx, sta_is al S, hz⟩
  exact ⟨v, B, X', ⟨[], ⟨hv, rfl, hh⟩, hl, hk, hs⟩, st⟩
end StrChars.Road
namespace StrChars.Road
open Jvm Sem ClassFile Op Lib Jvm.Stand Jvm.Free Jvm.Free.XT
open Jvm.Lib.Cold (StaticIs)
/-- the road's facts of a String, as the laws ask it -/
theorem txt_of {Z U : State} {a0 : Array Value} {kI : Nat} (wi : (Jvm.Cond.instantiable ST kI).before a0 Z = true) (al : Z.vm.Alike U.vm) {x t : Addr} {kb : ClassId} {cs : List Int32} {cd N2 : Int32} {vs : List Value} (E : RoadKit.Exa Z U.heap x ST) (V : RoadKit.Fld Z U.heap x ST "value" "[B" (.ref t)) (C : RoadKit.Fld Z U.heap x ST "coder" "B" (.int cd)) (K : RoadKit.Arv Z U.heap t kb .byte N2 vs (.int 0)) (hc : CodA cs cd N2 vs) (hb : ∀ c ∈ cs, ¬ c < 0 ∧ ¬ (65535 : Int32) < c) (l2 : cs.length ≤ 4000) :
    ∃ A, Txt x t A cd cs.length (fun j => cs.getD j 0) U := by
  obtain ⟨A, K1, K2, K3, K4, K5, K6⟩ := K
  have hcod := hc.cod (by omega) K3 K5
  obtain ⟨D, fV, fC, hB, F1, F2, g1, g2, -, -⟩ := strObj wi al E V C
  exact ⟨A, ⟨_, hB.2.2.1, D, hB.1, rfl, by cases q : D.vm <;> first | rfl | exact absurd q (hB.2.1.2 _)⟩, Has.of hB F1 g1, Has.of hB F2 g2, ⟨K1.1, State.isArrayOf_alike al K1.2.1, K1.2.2, by rcases hcod with ⟨-, q, -⟩ | ⟨-, q, -⟩ <;> omega⟩, hcod, fun j hj => by
    have e : cs.getD j 0 = cs[j] := by simp [List.getD_eq_getElem?_getD, hj]
    show ¬ cs.getD j 0 < 0 ∧ ¬ 65535 < cs.getD j 0
    rw [e]; exact hb _ (List.getElem_mem _)⟩
end StrChars.Road
namespace StrChars
open Jvm Sem ClassFile Op Lib Jvm.Stand Jvm.Free.XT Jvm.Free.ALB Jvm.Free.JM Jvm.Free
open Jvm.Lib.Cold (StaticIs)
namespace ChN
def yN : MethodName := ⟨"java/lang/String", "charAt", "(I)C"⟩
abbrev yB : ByteArray := jdk_42_method_56_code
theorem d0 : decode yB 0 = .ok (.aload_n 0, 1) := by decide +kernel
theorem d1 : decode yB 1 = .ok (.invokevirtual 492, 3) := by decide +kernel
theorem d4 : decode yB 4 = .ok (.ifCond (.eq) 12, 3) := by decide +kernel
theorem d7 : decode yB 7 = .ok (.aload_n 0, 1) := by decide +kernel
theorem d8 : decode yB 8 = .ok (.getfield 9, 3) := by decide +kernel
theorem d11 : decode yB 11 = .ok (.iload_n 1, 1) := by decide +kernel
theorem d12 : decode yB 12 = .ok (.invokestatic 495, 3) := by decide +kernel
theorem d15 : decode yB 15 = .ok (.ireturn, 1) := by decide +kernel
def site : List Cond := [.fieldLink "java/lang/String" 9 "java/lang/String" "value" "[B", IsL.tab, LChA.tab] ++ virtW "java/lang/String" 492 "java/lang/String" IsL.yN IsL.yN ++ staticW "java/lang/String" 495 LChA.yN
def tab : Cond := tabOf yN yB 2 (some .char) site
def P (x t : Addr) (V : Cell) (n : Nat) (f : Nat → Int32) (z : Int32) (fm : Value) (i : Nat) (args : Array Value) (s : State) : Prop := args = #[.ref x, .int (Int32.ofNat i)] ∧ Txt x t V 0 n f s ∧ i < n ∧ StaticIs s "java/lang/String" "COMPACT_STRINGS" "Z" (.int z) ∧ ¬ z = 0 ∧ StaticIs s "jdk/internal/util/Preconditions" "SIOOBE_FORMATTER" "Ljava/util/function/BiFunction;" fm ∧ fm.isRef = true
def E (f : Nat → Int32) (i : Nat) (r : Option Value) (s u : State) : Prop := XT.PureE (some (.int (f i))) r s u
/-- charAt(i) of a Latin-1 String of n chars, i < n: f i -/
theorem law (l : Launch) (x t : Addr) (V : Cell) (n : Nat) (f : Nat → Int32) (z : Int32) (fm : Value) (i : Nat) : Law l yN 2 1 3 40 yB 2 (some .char) site (P x t V n f z fm i) (E f i) [] 0 0 := by
  refine Law.of_walk (plainFor_of_name (by decide +kernel)) (by decide +kernel) (by decide +kernel) (by decide) (fun _ _ h => by rw [h.1]; rfl) (fun _ U U' hal hh h => ⟨h.1, h.2.1.mv hal hh, h.2.2.1, h.2.2.2.1.there hal hh, h.2.2.2.2.1, h.2.2.2.2.2.1.there hal hh, h.2.2.2.2.2.2⟩) (fun r U U' V V' h1 hal h2 h => XT.PureE.mv r U U' V V' h1 hal h2 h) ?_
  intro p e s m args below meth c s₁ X0 hexec hbytes hml hret hlk hnm hown hh0 W hP
  obtain ⟨rfl, hx, hi, s1, hz, s3, rf⟩ := hP
  have v31 := hx.2.2.2.1.2.2.2
  have hr := hx.2.2.2.2.2 i hi
  have hx0 := hx.mv X0.warmed.alike hh0
  have c1 : Steps p.tables e below (s₁.setTop (entryFrame m #[.ref x, .int (Int32.ofNat i)] 2)) (s₁.setTop (mkF m 1 #[.val (.ref x), .val (.int (Int32.ofNat i))] [.ref x])) := Steps.trans (entry rfl) (by
    show Steps p.tables e below (s₁.setTop (mkF m 0 #[.val (.ref x), .val (.int (Int32.ofNat i))] [])) _
    refine XS.aloadN X0.here hexec rfl (hb hbytes d0) rfl rfl ?_
    exact Steps.refl _)
  obtain ⟨v2, T2, X2, E2, g2⟩ := X0.callV hexec (IsL.law l x 0 z) hown (wks W (virtW "java/lang/String" 492 "java/lang/String" IsL.yN IsL.yN)) rfl (by decide) (wk W IsL.tab) (W := 0) (Nat.le_of_ble_eq_true rfl) (Nat.le_of_ble_eq_true rfl) (Nat.le_refl _) (Nat.le_refl _) (hx0.1.fc X0.warmed.alike) hx0.1.is (g := (mkF m 1 #[.val (.ref x), .val (.int (Int32.ofNat i))] [.ref x])) rfl (by rw [hml]; rfl) c1 (argsL := []) (rest := []) rfl rfl (by show 2 * 0 + 0 ≤ _; decide) (hb hbytes d1) (⟨rfl, hx0.2.2.1, hx.2.2.2.2.1.cd, s1.there X0.warmed.alike hh0, hz⟩)
  obtain ⟨rfl, q2⟩ := E2
  have hh2 := q2.trans hh0
  have hx2 := hx.mv X2.warmed.alike hh2
  obtain ⟨-, k1, k2⟩ | ⟨k0, -⟩ := hx.2.2.2.2.1
  · have c3 : Steps p.tables e below (s₁.setTop (entryFrame m #[.ref x, .int (Int32.ofNat i)] 2)) (T2.setTop (mkF m 8 #[.val (.ref x), .val (.int (Int32.ofNat i))] [.ref x])) := Steps.trans g2 (by
      refine XS.ifNo X2.here hexec rfl (hb hbytes d4) rfl (i0_eq_f (by decide)) ?_
      refine XS.aloadN X2.here hexec rfl (hb hbytes d7) rfl rfl ?_
      exact Steps.refl _)
    obtain ⟨T4, X4, q4, st4⟩ := X2.hget hexec hown (wk W (.fieldLink "java/lang/String" 9 "java/lang/String" "value" "[B")) hx2.2.1 (g := (mkF m 8 #[.val (.ref x), .val (.int (Int32.ofNat i))] [.ref x])) rfl (rest := []) rfl (hb hbytes d8)
    have hh4 := q4.trans hh2
    have c5 : Steps p.tables e below (s₁.setTop (entryFrame m #[.ref x, .int (Int32.ofNat i)] 2)) (T4.setTop (mkF m 12 #[.val (.ref x), .val (.int (Int32.ofNat i))] [.int (Int32.ofNat i), .ref t])) := (c3.trans (st4 _ (Steps.refl _))).trans (by
      refine XS.iloadN X4.here hexec rfl (hb hbytes d11) rfl ?_
      exact Steps.refl _)
    obtain ⟨v6, T6, X6, E6, g6⟩ := X4.callS hexec (LChA.law l t V i (lo8 (f i)) fm) hown (wks W (staticW "java/lang/String" 495 LChA.yN)) (wk W LChA.tab) (W := 0) (Nat.le_of_ble_eq_true rfl) (Nat.le_of_ble_eq_true rfl) (Nat.le_refl _) (Nat.le_refl _) (g := (mkF m 12 #[.val (.ref x), .val (.int (Int32.ofNat i))] [.int (Int32.ofNat i), .ref t])) rfl (by rw [hml]; rfl) c5 (argsL := [.ref t, .int (Int32.ofNat i)]) (rest := []) rfl rfl (by show 2 * 0 + 0 ≤ _; decide) (hb hbytes d12) (⟨rfl, hx.2.2.2.1.mv X4.warmed.alike hh4, (k2 i hi).1, s3.there X4.warmed.alike hh4, rf⟩)
    obtain ⟨rfl, q6⟩ := E6
    rw [chr8_lo8 hr.1 (k2 i hi).2] at g6
    exact ⟨T6, some (.int (f i)), _, _, _, X6, rfl, rfl, rfl, (fun h => by cases h), ⟨rfl, q6.trans hh4⟩, fun fs hl => Steps.trans g6 (X6.ireturnOut hexec hret (narrow_ch hr.1 hr.2) (Or.inr (Or.inr (Or.inr (Or.inl rfl)))) (hb hbytes d15) hl)⟩
  · exact absurd k0 (by decide)
theorem pays {l : Launch} {R : Room} {p : Program} {e : Env} {below : List Frame} {s : State} {sargs : Array Value} {len W : Nat} (x t : Addr) (V : Cell) (n : Nat) (f : Nat → Int32) (z : Int32) (fm : Value) (i : Nat) (htab : tab.before sargs s = true) (hfr : 4 ≤ R.frames) (hlo : W + 53 ≤ R.locals) :
    Back l R p e below s sargs yN len W (fun A₁ a₁ => A₁.cells + 0 ≤ R.cells ∧ A₁.slots + 0 ≤ R.slots ∧ P x t V n f z fm i a₁ A₁.U) (fun A₁ _ v₁ B₁ => E f i v₁ A₁.U B₁.U ∧ B₁.locs = A₁.locs ++ [] ∧ B₁.cells = A₁.cells + 0 ∧ B₁.slots = A₁.slots + 0) :=
  (law l x t V n f z fm i).pays htab hfr (by omega)
end ChN
end StrChars
namespace StrChars.Road
open Jvm Sem ClassFile Op Lib Jvm.Stand Jvm.Free Jvm.Free.XT
open Jvm.Lib.Cold (StaticIs)
/-- the words of String.charAt(int), the Latin-1 road alone -/
abbrev wordsChN : List Jvm.Cond := [.code ChN.yN ChN.yB 2 (some .char), .initialized ST, .fieldLink ST 9 ST "value" "[B", .fieldLink ST 38 ST "COMPACT_STRINGS" "Z", .fieldLink ST 15 ST "coder" "B", .code IsL.yN IsL.yB 1 (some .boolean), .methodLink ST 492 IsL.yN, .declares IsL.yN, .selects ST IsL.yN IsL.yN, .instanceMethod IsL.yN,
  .methodLink ST 495 LChA.yN, .static LChA.yN, .code LChA.yN LChA.yB 2 (some .char), .initialized "java/lang/StringLatin1", .methodLink "java/lang/StringLatin1" 9 JO.Str_checkIndex.yN, .static JO.Str_checkIndex.yN, .code JO.Str_checkIndex.yN JO.Str_checkIndex.yB 2 none,
  .fieldLink ST 1053 "jdk/internal/util/Preconditions" "SIOOBE_FORMATTER" "Ljava/util/function/BiFunction;", .methodLink ST 1059 JC.PreCheck.yN, .static JC.PreCheck.yN, .code JC.PreCheck.yN JC.PreCheck.yB 3 (some .int), .initialized "jdk/internal/util/Preconditions"]
theorem tabChN_of {a : Array Value} {s : State} (h : ∀ w ∈ wordsChN, w.before a s = true) : ChN.tab.before a s = true := by
  have hp : JC.PreCheck.tab.before a s = true := unparts (wk h (.code JC.PreCheck.yN JC.PreCheck.yB 3 (some .int))) (wks h (.initialized JC.PreCheck.yN.cls :: JC.PreCheck.site))
  have qk := consq hp h
  have hk : JO.Str_checkIndex.tab.before a s = true := unparts (wk qk (.code JO.Str_checkIndex.yN JO.Str_checkIndex.yB 2 none)) (wks qk (.initialized JO.Str_checkIndex.yN.cls :: JO.Str_checkIndex.site))
  have ql := consq hk h
  have hl : LChA.tab.before a s = true := unparts (wk ql (.code LChA.yN LChA.yB 2 (some .char))) (wks ql (.initialized LChA.yN.cls :: LChA.site))
  have hi : IsL.tab.before a s = true := unparts (wk h (.code IsL.yN IsL.yB 1 (some .boolean))) (wks h (.initialized IsL.yN.cls :: IsL.site))
  have q := consq hi (consq hl h)
  exact unparts (wk q (.code ChN.yN ChN.yB 2 (some .char))) (wks q (.initialized ChN.yN.cls :: ChN.site))
theorem movedChN {Z s : State} {a0 args : Array Value} (hZ : Z.Warmed39 s.vm) (hw : ∀ d ∈ wordsChN, d.before a0 Z = true) : ∀ d ∈ wordsChN, d.before args s = true := fun d hd => by
  have t : ∀ d ∈ wordsChN, (d.onTables && d.keepsFace) = true := by decide +kernel
  exact RoadKit.mv hZ (hw d hd) (t d hd)
/-- **charAt(i) OF A LATIN-1 STRING**, i < n: the char -/
theorem chN {p : Program} {l : Launch} {e : Env} {R : Room} {s : State} {args : Array Value} {below : List Frame} {len W : Nat} {Z : State} {a0 : Array Value} {h : Heap} (hZ : Z.Warmed39 s.vm) (hw : ∀ d ∈ wordsChN, d.before a0 Z = true) {kI : Nat} (wi : (Jvm.Cond.instantiable ST kI).before a0 Z = true)
    {x t : Addr} {kb : ClassId} {cs : List Int32} {N2 z : Int32} {vs : List Value} {fm : Value} {i : Nat} {j : Int32} (E : RoadKit.Exa Z h x ST) (V : RoadKit.Fld Z h x ST "value" "[B" (.ref t)) (C : RoadKit.Fld Z h x ST "coder" "B" (.int 0)) (K : RoadKit.Arv Z h t kb .byte N2 vs (.int 0)) (hc : CodA cs 0 N2 vs) (hb : ∀ c ∈ cs, ¬ c < 0 ∧ ¬ (65535 : Int32) < c)
    (S : RoadKit.Sta Z h ST "COMPACT_STRINGS" "Z" (.int z)) (hz : ¬ z = 0) (F : RoadKit.Sta Z h "jdk/internal/util/Preconditions" "SIOOBE_FORMATTER" "Ljava/util/function/BiFunction;" fm) (rf : fm.isRef = true) (l2 : cs.length ≤ 4000) (hi : i < cs.length) (hj : j = Int32.ofNat i) (hfr : 4 ≤ R.frames) (hlo : W + 53 ≤ R.locals) :
    Back l R p e below s args (⟨"java/lang/String", "charAt", "(I)C"⟩ : MethodName) len W (fun P a => a = #[.ref x, .int j] ∧ P.U.heap = h ∧ P.cells + 0 ≤ R.cells ∧ P.slots + 0 ≤ R.slots)
      (fun P _ v B => ∃ L, (v = some (.int (cs.getD i 0)) ∧ L = [] ∧ B.U.heap = h) ∧ B.locs = P.locs ++ L ∧ B.cells = P.cells + 0 ∧ B.slots = P.slots + 0) := by
  subst hj
  intro m meth c P g ig mk a X hg hsize hdg hW hn hp'
  obtain ⟨rfl, rfl, r1, r2⟩ := hp'
  have al : Z.vm.Alike P.U.vm := hZ.alike.trans X.warmed.alike
  obtain ⟨A, hx⟩ := txt_of wi al E V C K hc hb l2
  obtain ⟨v, B, X', ⟨⟨hv, hh⟩, hl, hk, hs⟩, st⟩ := ChN.pays x t A cs.length (fun j => cs.getD j 0) z fm i (tabChN_of (movedChN hZ hw)) hfr hlo m meth c P g ig mk _ X hg hsize hdg hW hn ⟨r1, r2, rfl, hx, hi, sta_is al S, hz, sta_is al F, rf⟩
  exact ⟨v, B, X', ⟨[], ⟨hv, rfl, hh⟩, hl, hk, hs⟩, st⟩
/-- what backV says of its String, as the contracts of this text ask it: cs's low bytes, coder 0 -/
theorem codOf {cs : List Int32} {n : Nat} (hn : cs.length = n) (hb : ∀ c ∈ cs, ¬ 255 < c) : CodA cs 0 (Int32.ofNat n) ((cs.map lo8).map Value.int) := Or.inl ⟨rfl, by rw [hn], by simp [List.map_map, Function.comp_def], hb⟩
end StrChars.Road
end Jvm.Pilot.@@N@@
namespace Jvm.Pilot.@@N@@
open Jvm Jvm.ClassFile Sem Op Lib Jvm.Free Jvm.Stand Jvm.LawKit Jvm.RoadKit Bundle Jvm.Pilot.@@N@@.Jvm.D
/-! from A on the run returns, and F holds of the end -/
def own_Goes (p : Program) (e : Env) (below : List Frame) (F : State → Outcome → Prop) (A : State) : Prop := ∃ s₂ o, Steps p.tables e below A s₂ ∧ s₂.status = .running ∧ Ended s₂ below o ∧ F s₂ o
/-- the narrow end: Q of what it returned, of the heap and of the places written; the frame -/
def own_FN (s : State) (Q : Option Value → Heap → List Loc → Prop) (k n : Nat) : State → Outcome → Prop := fun s₂ o => ∃ v L, o = .returned v ∧ Q v s₂.heap L ∧ FrameEnd s o s₂ L k n
section OwnGoes
variable {p : Program} {l : Launch} {e : Env} {R : Room} {s : State} {m : MethodId} {args : Array Value} {below : List Frame} {meth : Method} {c : Code} {T : State} {locs : List Loc} {cells slots : Nat} {Q : Option Value → Heap → List Loc → Prop} {k n : Nat} {F : State → Outcome → Prop}
theorem own_to {A B : State} (h : ∀ t, Steps p.tables e below B t → Steps p.tables e below A t) (g : own_Goes p e below F B) : own_Goes p e below F A := by
  obtain ⟨s₂, o, h1, r⟩ := g
  exact ⟨s₂, o, h _ h1, r⟩
theorem own_tr {A B : State} (h : Steps p.tables e below A B) (g : own_Goes p e below F B) : own_Goes p e below F A := own_to (fun t q => h.trans q) g
/-! the shapes of a step: what lies on the stack and in the locals behind it -/
theorem own_tp {T' : State} {pc : Nat} {L : Array Slot} {S : List Value} (w : Value) (pc' : Nat) (h : ∀ t, Steps p.tables e below (T'.setTop (mkF m pc' L (w :: S))) t → Steps p.tables e below (T.setTop (mkF m pc L S)) t) (g : own_Goes p e below F (T'.setTop (mkF m pc' L (w :: S)))) : own_Goes p e below F (T.setTop (mkF m pc L S)) := own_to h g
theorem own_t1 {T' : State} {pc : Nat} {L : Array Slot} {S : List Value} {x : Value} (w : Value) (pc' : Nat) (h : ∀ t, Steps p.tables e below (T'.setTop (mkF m pc' L (w :: S))) t → Steps p.tables e below (T.setTop (mkF m pc L (x :: S))) t) (g : own_Goes p e below F (T'.setTop (mkF m pc' L (w :: S)))) : own_Goes p e below F (T.setTop (mkF m pc L (x :: S))) := own_to h g
theorem own_t2 {T' : State} {pc : Nat} {L : Array Slot} {S : List Value} {x y : Value} (w : Value) (pc' : Nat) (h : ∀ t, Steps p.tables e below (T'.setTop (mkF m pc' L (w :: S))) t → Steps p.tables e below (T.setTop (mkF m pc L (x :: y :: S))) t) (g : own_Goes p e below F (T'.setTop (mkF m pc' L (w :: S)))) : own_Goes p e below F (T.setTop (mkF m pc L (x :: y :: S))) := own_to h g
theorem own_d0 {T' : State} {pc : Nat} {L : Array Slot} {S : List Value} (pc' : Nat) (h : ∀ t, Steps p.tables e below (T'.setTop (mkF m pc' L S)) t → Steps p.tables e below (T.setTop (mkF m pc L S)) t) (g : own_Goes p e below F (T'.setTop (mkF m pc' L S))) : own_Goes p e below F (T.setTop (mkF m pc L S)) := own_to h g
theorem own_d1 {T' : State} {pc : Nat} {L : Array Slot} {S : List Value} {x : Value} (pc' : Nat) (h : ∀ t, Steps p.tables e below (T'.setTop (mkF m pc' L S)) t → Steps p.tables e below (T.setTop (mkF m pc L (x :: S))) t) (g : own_Goes p e below F (T'.setTop (mkF m pc' L S))) : own_Goes p e below F (T.setTop (mkF m pc L (x :: S))) := own_to h g
theorem own_d2 {T' : State} {pc : Nat} {L : Array Slot} {S : List Value} {x y : Value} (pc' : Nat) (h : ∀ t, Steps p.tables e below (T'.setTop (mkF m pc' L S)) t → Steps p.tables e below (T.setTop (mkF m pc L (x :: y :: S))) t) (g : own_Goes p e below F (T'.setTop (mkF m pc' L S))) : own_Goes p e below F (T.setTop (mkF m pc L (x :: y :: S))) := own_to h g
theorem own_cs {T' : State} {pc : Nat} {L : Array Slot} {S : List Value} (S' : List Value) (pc' : Nat) (h : ∀ t, Steps p.tables e below (T'.setTop (mkF m pc' L S')) t → Steps p.tables e below (T.setTop (mkF m pc L S)) t) (g : own_Goes p e below F (T'.setTop (mkF m pc' L S'))) : own_Goes p e below F (T.setTop (mkF m pc L S)) := own_to h g
theorem own_csR {T' : State} {pc : Nat} {L : Array Slot} {S : List Value} (S' : List Value) (pc' : Nat) (h : Steps p.tables e below (T.setTop (mkF m pc L S)) (T'.setTop (mkF m pc' L S'))) (g : own_Goes p e below F (T'.setTop (mkF m pc' L S'))) : own_Goes p e below F (T.setTop (mkF m pc L S)) := own_tr h g
theorem own_ls {T' : State} {pc : Nat} {L : Array Slot} {S : List Value} {x : Value} (L' : Array Slot) (pc' : Nat) (h : ∀ t, Steps p.tables e below (T'.setTop (mkF m pc' L' S)) t → Steps p.tables e below (T.setTop (mkF m pc L (x :: S))) t) (g : own_Goes p e below F (T'.setTop (mkF m pc' L' S))) : own_Goes p e below F (T.setTop (mkF m pc L (x :: S))) := own_to h g
theorem own_li {T' : State} {pc : Nat} {L : Array Slot} {S : List Value} (L' : Array Slot) (pc' : Nat) (h : ∀ t, Steps p.tables e below (T'.setTop (mkF m pc' L' S)) t → Steps p.tables e below (T.setTop (mkF m pc L S)) t) (g : own_Goes p e below F (T'.setTop (mkF m pc' L' S))) : own_Goes p e below F (T.setTop (mkF m pc L S)) := own_to h g
theorem own_start {A B : State} (h : ∀ t, Steps p.tables e below B t → Steps p.tables e below A t) (g : own_Goes p e below (own_FN s Q k n) B) :
    ∃ s₂ o, Steps p.tables e below A s₂ ∧ s₂.status = .running ∧ Ended s₂ below o ∧ ∃ v L, o = .returned v ∧ Q v s₂.heap L ∧ FrameEnd s o s₂ L k n := own_to h g
theorem own_retN (X : Stand p l e R s m args below meth c T locs cells slots) (hx : p.tables.exec = Jvm.exec) {pc : Nat} {Ls : Array Slot} {z : Int32} {t : FieldType} {rest : List Value} (hret : meth.sig.returnType = some t)
    (hd : decode c.code pc = .ok (.ireturn, 1)) (ht : t = .boolean ∨ t = .byte ∨ t = .char ∨ t = .short) (hlk : meth.locks = false) (hk : cells ≤ k) (hn : slots ≤ n) {h : Heap} (eT : T.heap = h) (hQ : Q (some (.int (nar t z))) h locs) :
    own_Goes p e below (own_FN s Q k n) (T.setTop (mkF m pc Ls (.int z :: rest))) := by
  obtain ⟨fs, hr, hrun, hended, hW, hsame⟩ := X.leave (v := some (.int (nar t z))) (fun q => by rw [hret] at q; cases q) hlk
  subst eT
  exact ⟨_, _, retN X hx hret ht hd hr, hrun, hended, _, _, rfl, hQ, ⟨_, rfl⟩, hW, hsame.mono hk hn⟩
theorem own_retI (X : Stand p l e R s m args below meth c T locs cells slots) (hx : p.tables.exec = Jvm.exec) {pc : Nat} {Ls : Array Slot} {z : Int32} {rest : List Value} (hret : meth.sig.returnType = some .int)
    (hd : decode c.code pc = .ok (.ireturn, 1)) (hlk : meth.locks = false) (hk : cells ≤ k) (hn : slots ≤ n) {h : Heap} (eT : T.heap = h) (hQ : Q (some (.int z)) h locs) :
    own_Goes p e below (own_FN s Q k n) (T.setTop (mkF m pc Ls (.int z :: rest))) := by
  obtain ⟨fs, hr, hrun, hended, hW, hsame⟩ := X.leave (v := some (.int z)) (fun q => by rw [hret] at q; cases q) hlk
  subst eT
  exact ⟨_, _, retOut X hx hret rfl (Or.inl ⟨rfl, Or.inl rfl, z, rfl⟩) hd hr, hrun, hended, _, _, rfl, hQ, ⟨_, rfl⟩, hW, hsame.mono hk hn⟩
theorem own_retJ (X : Stand p l e R s m args below meth c T locs cells slots) (hx : p.tables.exec = Jvm.exec) {pc : Nat} {Ls : Array Slot} {z : Int64} {rest : List Value} (hret : meth.sig.returnType = some .long)
    (hd : decode c.code pc = .ok (.lreturn, 1)) (hlk : meth.locks = false) (hk : cells ≤ k) (hn : slots ≤ n) {h : Heap} (eT : T.heap = h) (hQ : Q (some (.long z)) h locs) :
    own_Goes p e below (own_FN s Q k n) (T.setTop (mkF m pc Ls (.long z :: rest))) := by
  obtain ⟨fs, hr, hrun, hended, hW, hsame⟩ := X.leave (v := some (.long z)) (fun q => by rw [hret] at q; cases q) hlk
  subst eT
  exact ⟨_, _, retOut X hx hret rfl (Or.inr (Or.inl ⟨rfl, rfl, z, rfl⟩)) hd hr, hrun, hended, _, _, rfl, hQ, ⟨_, rfl⟩, hW, hsame.mono hk hn⟩
theorem own_nref {t : FieldType} {w : Value} (ht : t.isReference = true) : narrow t w = w := by cases t <;> first | rfl | (exact Bool.noConfusion ht)
theorem own_fits {t : FieldType} {w : Value} (ht : t.isReference = true) (hw : w.isRef = true) : fits t w = true := by
  cases t <;> first | (exact Bool.noConfusion ht) | (cases w <;> first | rfl | (exact Bool.noConfusion hw))
theorem own_retR (X : Stand p l e R s m args below meth c T locs cells slots) (hx : p.tables.exec = Jvm.exec) {pc : Nat} {Ls : Array Slot} {w : Value} {t : FieldType} {rest : List Value} (hret : meth.sig.returnType = some t)
    (hd : decode c.code pc = .ok (.areturn, 1)) (ht : t.isReference = true) (hw : w.isRef = true) (hlk : meth.locks = false) (hk : cells ≤ k) (hn : slots ≤ n) {h : Heap} (eT : T.heap = h) (hQ : Q (some w) h locs) :
    own_Goes p e below (own_FN s Q k n) (T.setTop (mkF m pc Ls (w :: rest))) := by
  obtain ⟨fs, hr, hrun, hended, hW, hsame⟩ := X.leave (v := some w) (fun q => by rw [hret] at q; cases q) hlk
  subst eT
  exact ⟨_, _, retOut X hx hret (own_nref ht) (Or.inr (Or.inr (Or.inr (Or.inr ⟨rfl, ht, hw⟩)))) hd hr, hrun, hended, _, _, rfl, hQ, ⟨_, rfl⟩, hW, hsame.mono hk hn⟩
theorem own_retV (X : Stand p l e R s m args below meth c T locs cells slots) (hx : p.tables.exec = Jvm.exec) {pc : Nat} {Ls : Array Slot} (hret : meth.sig.returnType = none)
    (hd : decode c.code pc = .ok (.return_, 1)) (hlk : meth.locks = false) (hk : cells ≤ k) (hn : slots ≤ n) {h : Heap} (eT : T.heap = h) (hQ : Q none h locs) :
    own_Goes p e below (own_FN s Q k n) (T.setTop (mkF m pc Ls [])) := by
  obtain ⟨fs, hr, hrun, hended, hW, hsame⟩ := X.leave (v := none) (fun _ => rfl) hlk
  subst eT
  exact ⟨_, _, X.returnOut hx hret hd hr, hrun, hended, _, _, rfl, hQ, ⟨_, rfl⟩, hW, hsame.mono hk hn⟩
end OwnGoes

/-- a body's contract, in lawnew's form -/
abbrev own_Met (l : Launch) (y : MethodName) (bytes : ByteArray) (ml : Nat) (rt : Option FieldType) (ws : List Jvm.Cond) (rm : Room) (Z : State) (as' : Array Value) (h0 : Heap) (Q : Option Value → Heap → List Loc → Prop) : Prop :=
  MetFree l y (head1 (Jvm.Cond.code y bytes ml rt :: ws) rm) (fun a U => a = as' ∧ Z.Warmed39 U.vm ∧ U.heap = h0) (fun _ _ _ _ _ => True) (fun _ U o U' => ∃ v L, o = .returned v ∧ Q v U'.heap L ∧ FrameEnd U o U' L rm.cells rm.slots)
theorem own_enter {l : Launch} {y : MethodName} {bytes : ByteArray} {ml : Nat} {rt : Option FieldType} {ws : List Jvm.Cond} {rm : Room} {Z : State} {as' : Array Value} {h0 : Heap} {Q : Option Value → Heap → List Loc → Prop} (L0 : Array Slot) (hp : plainFor y = true) (ef : ∀ m, entryFrame m as' ml = mkF m 0 L0 [])
    (go : ∀ (p : Program) (e : Env) (s : State) (m : MethodId) (below : List Frame) (meth : Method) (c : Code) (s₁ : State), p.tables.exec = Jvm.exec → c.code = bytes → c.maxLocals = ml → s.vm.findClass y.cls = some m.cls → meth.name = y.name → Z.Warmed39 s.vm → meth.sig.returnType = rt → meth.locks = false → Stand p l e rm s m as' below meth c s₁ [] 0 0 → s₁.heap = h0 → own_Goes p e below (own_FN s Q rm.cells rm.slots) (s₁.setTop (mkF m 0 L0 []))) :
    own_Met l y bytes ml rt ws rm Z as' h0 Q := by
  refine MetFree.of_bodySF hp hisR ?_
  intro p e s m args below meth c s₁ Bd hml0 hP hK
  obtain ⟨rfl, hZ, hh⟩ := hP
  have g := go p e s m below meth c s₁ Bd.exec Bd.bytes hml0 (findClass_of_methodNamed Bd.named) (name_of_methodNamed Bd.named Bd.method).1 hZ Bd.returns Bd.notSynchronized (Stand.of_body Bd) (by rw [← hh, Bd.state]; rfl)
  exact own_start (fun t k => castTop (ef m) k) g

theorem own_cat1 {x : Value} (h : x.isRef = true) : x.category = 1 := by cases x <;> first | rfl | exact Bool.noConfusion h
theorem own_catI (z : Int32) : (Value.int z).category = 1 := rfl
theorem own_catJ (z : Int64) : (Value.long z).category = 2 := rfl
theorem own_catR (z : Addr) : (Value.ref z).category = 1 := rfl
theorem own_w {a0 : Array Value} {Z : State} (hw : ∀ d ∈ tables_1, d.before a0 Z = true) (i : Nat) {d : Jvm.Cond} (h : tables_1[i]? = some d) : d.before a0 Z = true := hw _ (List.mem_of_getElem? h)
abbrev own_R_0_0_0_0 : Room := { frames := 0, cells := 0, slots := 0, locals := 0 }
abbrev own_R_1_0_0_12 : Room := { frames := 1, cells := 0, slots := 0, locals := 12 }
abbrev own_R_4_0_0_53 : Room := { frames := 4, cells := 0, slots := 0, locals := 53 }
theorem dp10m5_0 : decode prog_10_method_5_code 0 = .ok (.iload_n 0, 1) := by decide +kernel
theorem dp10m5_1 : decode prog_10_method_5_code 1 = .ok (.bipush 97, 2) := by decide +kernel
theorem dp10m5_3 : decode prog_10_method_5_code 3 = .ok (.if_icmp .lt 9, 3) := by decide +kernel
theorem dp10m5_6 : decode prog_10_method_5_code 6 = .ok (.iload_n 0, 1) := by decide +kernel
theorem dp10m5_7 : decode prog_10_method_5_code 7 = .ok (.bipush 122, 2) := by decide +kernel
theorem dp10m5_9 : decode prog_10_method_5_code 9 = .ok (.if_icmp .le 15, 3) := by decide +kernel
theorem dp10m5_12 : decode prog_10_method_5_code 12 = .ok (.iload_n 0, 1) := by decide +kernel
theorem dp10m5_13 : decode prog_10_method_5_code 13 = .ok (.bipush 65, 2) := by decide +kernel
theorem dp10m5_15 : decode prog_10_method_5_code 15 = .ok (.if_icmp .lt 13, 3) := by decide +kernel
theorem dp10m5_18 : decode prog_10_method_5_code 18 = .ok (.iload_n 0, 1) := by decide +kernel
theorem dp10m5_19 : decode prog_10_method_5_code 19 = .ok (.bipush 90, 2) := by decide +kernel
theorem dp10m5_21 : decode prog_10_method_5_code 21 = .ok (.if_icmp .gt 7, 3) := by decide +kernel
theorem dp10m5_24 : decode prog_10_method_5_code 24 = .ok (.iconst 1, 1) := by decide +kernel
theorem dp10m5_25 : decode prog_10_method_5_code 25 = .ok (.goto 4, 3) := by decide +kernel
theorem dp10m5_28 : decode prog_10_method_5_code 28 = .ok (.iconst 0, 1) := by decide +kernel
theorem dp10m5_29 : decode prog_10_method_5_code 29 = .ok (.ireturn, 1) := by decide +kernel
theorem pn_com_example_cited_experts_citedexperts_EmailAddress : plainName "com/example/cited_experts/citedexperts/EmailAddress" = true := by first | (simp [plainName, overriddenIn]; done) | decide +kernel
theorem ef_I_1 (m : MethodId) (x0 : Int32) : entryFrame m #[(.int x0)] 1 = mkF m 0 #[.val (.int x0)] [] := by first | (simp [entryFrame, mkF, argsToLocals, Value.category]; done) | rfl
theorem dp10m6_0 : decode prog_10_method_6_code 0 = .ok (.iload_n 0, 1) := by decide +kernel
theorem dp10m6_1 : decode prog_10_method_6_code 1 = .ok (.invokestatic 81, 3) := by decide +kernel
theorem dp10m6_4 : decode prog_10_method_6_code 4 = .ok (.ifCond .ne 15, 3) := by decide +kernel
theorem dp10m6_7 : decode prog_10_method_6_code 7 = .ok (.iload_n 0, 1) := by decide +kernel
theorem dp10m6_8 : decode prog_10_method_6_code 8 = .ok (.bipush 48, 2) := by decide +kernel
theorem dp10m6_10 : decode prog_10_method_6_code 10 = .ok (.if_icmp .lt 13, 3) := by decide +kernel
theorem dp10m6_13 : decode prog_10_method_6_code 13 = .ok (.iload_n 0, 1) := by decide +kernel
theorem dp10m6_14 : decode prog_10_method_6_code 14 = .ok (.bipush 57, 2) := by decide +kernel
theorem dp10m6_16 : decode prog_10_method_6_code 16 = .ok (.if_icmp .gt 7, 3) := by decide +kernel
theorem dp10m6_19 : decode prog_10_method_6_code 19 = .ok (.iconst 1, 1) := by decide +kernel
theorem dp10m6_20 : decode prog_10_method_6_code 20 = .ok (.goto 4, 3) := by decide +kernel
theorem dp10m6_23 : decode prog_10_method_6_code 23 = .ok (.iconst 0, 1) := by decide +kernel
theorem dp10m6_24 : decode prog_10_method_6_code 24 = .ok (.ireturn, 1) := by decide +kernel
theorem pd0 : parseMethodDescriptor "(I)Z" = some ⟨[.int], some .boolean⟩ := by decide +kernel
theorem dq5_0 : decode method_5_code 0 = .ok (.iload_n 0, 1) := by decide +kernel
theorem dq5_1 : decode method_5_code 1 = .ok (.bipush 97, 2) := by decide +kernel
theorem dq5_3 : decode method_5_code 3 = .ok (.if_icmp .lt 9, 3) := by decide +kernel
theorem dq5_6 : decode method_5_code 6 = .ok (.iload_n 0, 1) := by decide +kernel
theorem dq5_7 : decode method_5_code 7 = .ok (.bipush 122, 2) := by decide +kernel
theorem dq5_9 : decode method_5_code 9 = .ok (.if_icmp .le 15, 3) := by decide +kernel
theorem dq5_12 : decode method_5_code 12 = .ok (.iload_n 0, 1) := by decide +kernel
theorem dq5_13 : decode method_5_code 13 = .ok (.bipush 65, 2) := by decide +kernel
theorem dq5_15 : decode method_5_code 15 = .ok (.if_icmp .lt 13, 3) := by decide +kernel
theorem dq5_18 : decode method_5_code 18 = .ok (.iload_n 0, 1) := by decide +kernel
theorem dq5_19 : decode method_5_code 19 = .ok (.bipush 90, 2) := by decide +kernel
theorem dq5_21 : decode method_5_code 21 = .ok (.if_icmp .gt 7, 3) := by decide +kernel
theorem dq5_24 : decode method_5_code 24 = .ok (.iconst 1, 1) := by decide +kernel
theorem dq5_25 : decode method_5_code 25 = .ok (.goto 4, 3) := by decide +kernel
theorem dq5_28 : decode method_5_code 28 = .ok (.iconst 0, 1) := by decide +kernel
theorem dq5_29 : decode method_5_code 29 = .ok (.ireturn, 1) := by decide +kernel
theorem pn_com_example_cited_experts_citedexperts_EmailAddressHostEndPinLaw : plainName "com/example/cited_experts/citedexperts/EmailAddressHostEndPinLaw" = true := by first | (simp [plainName, overriddenIn]; done) | decide +kernel
theorem dq6_0 : decode method_6_code 0 = .ok (.iload_n 0, 1) := by decide +kernel
theorem dq6_1 : decode method_6_code 1 = .ok (.invokestatic 33, 3) := by decide +kernel
theorem dq6_4 : decode method_6_code 4 = .ok (.ifCond .ne 27, 3) := by decide +kernel
theorem dq6_7 : decode method_6_code 7 = .ok (.iload_n 0, 1) := by decide +kernel
theorem dq6_8 : decode method_6_code 8 = .ok (.bipush 48, 2) := by decide +kernel
theorem dq6_10 : decode method_6_code 10 = .ok (.if_icmp .lt 9, 3) := by decide +kernel
theorem dq6_13 : decode method_6_code 13 = .ok (.iload_n 0, 1) := by decide +kernel
theorem dq6_14 : decode method_6_code 14 = .ok (.bipush 57, 2) := by decide +kernel
theorem dq6_16 : decode method_6_code 16 = .ok (.if_icmp .le 15, 3) := by decide +kernel
theorem dq6_19 : decode method_6_code 19 = .ok (.iload_n 0, 1) := by decide +kernel
theorem dq6_20 : decode method_6_code 20 = .ok (.bipush 45, 2) := by decide +kernel
theorem dq6_22 : decode method_6_code 22 = .ok (.if_icmp .eq 9, 3) := by decide +kernel
theorem dq6_25 : decode method_6_code 25 = .ok (.iload_n 0, 1) := by decide +kernel
theorem dq6_26 : decode method_6_code 26 = .ok (.bipush 46, 2) := by decide +kernel
theorem dq6_28 : decode method_6_code 28 = .ok (.if_icmp .ne 7, 3) := by decide +kernel
theorem dq6_31 : decode method_6_code 31 = .ok (.iconst 1, 1) := by decide +kernel
theorem dq6_32 : decode method_6_code 32 = .ok (.goto 4, 3) := by decide +kernel
theorem dq6_35 : decode method_6_code 35 = .ok (.iconst 0, 1) := by decide +kernel
theorem dq6_36 : decode method_6_code 36 = .ok (.ireturn, 1) := by decide +kernel
theorem pd1 : parseMethodDescriptor "(C)Z" = some ⟨[.char], some .boolean⟩ := by decide +kernel
theorem dq3_0 : decode method_3_code 0 = .ok (.iload_n 1, 1) := by decide +kernel
theorem dq3_1 : decode method_3_code 1 = .ok (.iconst 1, 1) := by decide +kernel
theorem dq3_2 : decode method_3_code 2 = .ok (.if_icmp .eq 9, 3) := by decide +kernel
theorem dq3_5 : decode method_3_code 5 = .ok (.iload_n 1, 1) := by decide +kernel
theorem dq3_6 : decode method_3_code 6 = .ok (.bipush 7, 2) := by decide +kernel
theorem dq3_8 : decode method_3_code 8 = .ok (.if_icmp .ne 6, 3) := by decide +kernel
theorem dq3_11 : decode method_3_code 11 = .ok (.bipush 46, 2) := by decide +kernel
theorem dq3_13 : decode method_3_code 13 = .ok (.ireturn, 1) := by decide +kernel
theorem dq3_14 : decode method_3_code 14 = .ok (.iload_n 1, 1) := by decide +kernel
theorem dq3_15 : decode method_3_code 15 = .ok (.iconst 2, 1) := by decide +kernel
theorem dq3_16 : decode method_3_code 16 = .ok (.if_icmp .ne 12, 3) := by decide +kernel
theorem dq3_19 : decode method_3_code 19 = .ok (.bipush 97, 2) := by decide +kernel
theorem dq3_21 : decode method_3_code 21 = .ok (.iload_n 0, 1) := by decide +kernel
theorem dq3_22 : decode method_3_code 22 = .ok (.bipush 26, 2) := by decide +kernel
theorem dq3_24 : decode method_3_code 24 = .ok (.irem, 1) := by decide +kernel
theorem dq3_25 : decode method_3_code 25 = .ok (.iadd, 1) := by decide +kernel
theorem dq3_26 : decode method_3_code 26 = .ok (.i2c, 1) := by decide +kernel
theorem dq3_27 : decode method_3_code 27 = .ok (.ireturn, 1) := by decide +kernel
theorem dq3_28 : decode method_3_code 28 = .ok (.iload_n 1, 1) := by decide +kernel
theorem dq3_29 : decode method_3_code 29 = .ok (.iconst 3, 1) := by decide +kernel
theorem dq3_30 : decode method_3_code 30 = .ok (.if_icmp .ne 12, 3) := by decide +kernel
theorem dq3_33 : decode method_3_code 33 = .ok (.bipush 65, 2) := by decide +kernel
theorem dq3_35 : decode method_3_code 35 = .ok (.iload_n 0, 1) := by decide +kernel
theorem dq3_36 : decode method_3_code 36 = .ok (.bipush 26, 2) := by decide +kernel
theorem dq3_38 : decode method_3_code 38 = .ok (.irem, 1) := by decide +kernel
theorem dq3_39 : decode method_3_code 39 = .ok (.iadd, 1) := by decide +kernel
theorem dq3_40 : decode method_3_code 40 = .ok (.i2c, 1) := by decide +kernel
theorem dq3_41 : decode method_3_code 41 = .ok (.ireturn, 1) := by decide +kernel
theorem dq3_42 : decode method_3_code 42 = .ok (.iload_n 1, 1) := by decide +kernel
theorem dq3_43 : decode method_3_code 43 = .ok (.iconst 4, 1) := by decide +kernel
theorem dq3_44 : decode method_3_code 44 = .ok (.if_icmp .ne 12, 3) := by decide +kernel
theorem dq3_47 : decode method_3_code 47 = .ok (.bipush 48, 2) := by decide +kernel
theorem dq3_49 : decode method_3_code 49 = .ok (.iload_n 0, 1) := by decide +kernel
theorem dq3_50 : decode method_3_code 50 = .ok (.bipush 10, 2) := by decide +kernel
theorem dq3_52 : decode method_3_code 52 = .ok (.irem, 1) := by decide +kernel
theorem dq3_53 : decode method_3_code 53 = .ok (.iadd, 1) := by decide +kernel
theorem dq3_54 : decode method_3_code 54 = .ok (.i2c, 1) := by decide +kernel
theorem dq3_55 : decode method_3_code 55 = .ok (.ireturn, 1) := by decide +kernel
theorem dq3_56 : decode method_3_code 56 = .ok (.iload_n 1, 1) := by decide +kernel
theorem dq3_57 : decode method_3_code 57 = .ok (.iconst 5, 1) := by decide +kernel
theorem dq3_58 : decode method_3_code 58 = .ok (.if_icmp .ne 6, 3) := by decide +kernel
theorem dq3_61 : decode method_3_code 61 = .ok (.bipush 45, 2) := by decide +kernel
theorem dq3_63 : decode method_3_code 63 = .ok (.ireturn, 1) := by decide +kernel
theorem dq3_64 : decode method_3_code 64 = .ok (.iload_n 0, 1) := by decide +kernel
theorem dq3_65 : decode method_3_code 65 = .ok (.i2c, 1) := by decide +kernel
theorem dq3_66 : decode method_3_code 66 = .ok (.ireturn, 1) := by decide +kernel
theorem ef_II_2 (m : MethodId) (x0 : Int32) (x1 : Int32) : entryFrame m #[(.int x0), (.int x1)] 2 = mkF m 0 #[.val (.int x0), .val (.int x1)] [] := by first | (simp [entryFrame, mkF, argsToLocals, Value.category]; done) | rfl
theorem dq4_0 : decode method_4_code 0 = .ok (.iload 4, 2) := by decide +kernel
theorem dq4_2 : decode method_4_code 2 = .ok (.iload_n 3, 1) := by decide +kernel
theorem dq4_3 : decode method_4_code 3 = .ok (.if_icmp .ge 12, 3) := by decide +kernel
theorem dq4_6 : decode method_4_code 6 = .ok (.iload 4, 2) := by decide +kernel
theorem dq4_8 : decode method_4_code 8 = .ok (.ifCond .ne 5, 3) := by decide +kernel
theorem dq4_11 : decode method_4_code 11 = .ok (.iload_n 1, 1) := by decide +kernel
theorem dq4_12 : decode method_4_code 12 = .ok (.ireturn, 1) := by decide +kernel
theorem dq4_15 : decode method_4_code 15 = .ok (.iload 4, 2) := by decide +kernel
theorem dq4_17 : decode method_4_code 17 = .ok (.iload_n 3, 1) := by decide +kernel
theorem dq4_18 : decode method_4_code 18 = .ok (.isub, 1) := by decide +kernel
theorem dq4_19 : decode method_4_code 19 = .ok (.istore 5, 2) := by decide +kernel
theorem dq4_21 : decode method_4_code 21 = .ok (.iload 5, 2) := by decide +kernel
theorem dq4_23 : decode method_4_code 23 = .ok (.bipush 6, 2) := by decide +kernel
theorem dq4_25 : decode method_4_code 25 = .ok (.if_icmp .ge 8, 3) := by decide +kernel
theorem dq4_28 : decode method_4_code 28 = .ok (.aload_n 0, 1) := by decide +kernel
theorem dq4_29 : decode method_4_code 29 = .ok (.iload 5, 2) := by decide +kernel
theorem dq4_31 : decode method_4_code 31 = .ok (.caload, 1) := by decide +kernel
theorem dq4_32 : decode method_4_code 32 = .ok (.ireturn, 1) := by decide +kernel
theorem ef_RIIII_6 (m : MethodId) (x0 : Addr) (x1 : Int32) (x2 : Int32) (x3 : Int32) (x4 : Int32) : entryFrame m #[(.ref x0), (.int x1), (.int x2), (.int x3), (.int x4)] 6 = mkF m 0 #[.val (.ref x0), .val (.int x1), .val (.int x2), .val (.int x3), .val (.int x4), .unset] [] := by first | (simp [entryFrame, mkF, argsToLocals, Value.category]; done) | rfl
theorem dq4_13 : decode method_4_code 13 = .ok (.iload_n 2, 1) := by decide +kernel
theorem dq4_14 : decode method_4_code 14 = .ok (.ireturn, 1) := by decide +kernel
theorem dq4_33 : decode method_4_code 33 = .ok (.bipush 64, 2) := by decide +kernel
theorem dq4_35 : decode method_4_code 35 = .ok (.ireturn, 1) := by decide +kernel
theorem dp10m4_0 : decode prog_10_method_4_code 0 = .ok (.iconst (-1), 1) := by decide +kernel
theorem dp10m4_1 : decode prog_10_method_4_code 1 = .ok (.istore_n 2, 1) := by decide +kernel
theorem dp10m4_2 : decode prog_10_method_4_code 2 = .ok (.iconst 0, 1) := by decide +kernel
theorem dp10m4_3 : decode prog_10_method_4_code 3 = .ok (.istore_n 3, 1) := by decide +kernel
theorem dp10m4_4 : decode prog_10_method_4_code 4 = .ok (.iload_n 1, 1) := by decide +kernel
theorem dp10m4_5 : decode prog_10_method_4_code 5 = .ok (.istore 4, 2) := by decide +kernel
theorem dp10m4_7 : decode prog_10_method_4_code 7 = .ok (.iconst 1, 1) := by decide +kernel
theorem dp10m4_8 : decode prog_10_method_4_code 8 = .ok (.istore 5, 2) := by decide +kernel
theorem dp10m4_10 : decode prog_10_method_4_code 10 = .ok (.iload_n 1, 1) := by decide +kernel
theorem dp10m4_11 : decode prog_10_method_4_code 11 = .ok (.istore 6, 2) := by decide +kernel
theorem dp10m4_13 : decode prog_10_method_4_code 13 = .ok (.iload 6, 2) := by decide +kernel
theorem dp10m4_15 : decode prog_10_method_4_code 15 = .ok (.aload_n 0, 1) := by decide +kernel
theorem dp10m4_16 : decode prog_10_method_4_code 16 = .ok (.invokeinterface 74 1, 5) := by decide +kernel
theorem dp10m4_21 : decode prog_10_method_4_code 21 = .ok (.if_icmp .ge 101, 3) := by decide +kernel
theorem dp10m4_24 : decode prog_10_method_4_code 24 = .ok (.aload_n 0, 1) := by decide +kernel
theorem dp10m4_25 : decode prog_10_method_4_code 25 = .ok (.iload 6, 2) := by decide +kernel
theorem dp10m4_27 : decode prog_10_method_4_code 27 = .ok (.invokeinterface 77 2, 5) := by decide +kernel
theorem dp10m4_32 : decode prog_10_method_4_code 32 = .ok (.istore 7, 2) := by decide +kernel
theorem dp10m4_34 : decode prog_10_method_4_code 34 = .ok (.iload 7, 2) := by decide +kernel
theorem dp10m4_36 : decode prog_10_method_4_code 36 = .ok (.bipush 46, 2) := by decide +kernel
theorem dp10m4_38 : decode prog_10_method_4_code 38 = .ok (.if_icmp .ne 28, 3) := by decide +kernel
theorem dp10m4_41 : decode prog_10_method_4_code 41 = .ok (.iload 6, 2) := by decide +kernel
theorem dp10m4_43 : decode prog_10_method_4_code 43 = .ok (.iload 4, 2) := by decide +kernel
theorem dp10m4_45 : decode prog_10_method_4_code 45 = .ok (.if_icmp .ne 6, 3) := by decide +kernel
theorem dp10m4_48 : decode prog_10_method_4_code 48 = .ok (.goto 74, 3) := by decide +kernel
theorem dp10m4_51 : decode prog_10_method_4_code 51 = .ok (.iinc 3 1, 3) := by decide +kernel
theorem dp10m4_54 : decode prog_10_method_4_code 54 = .ok (.iload 6, 2) := by decide +kernel
theorem dp10m4_56 : decode prog_10_method_4_code 56 = .ok (.iconst 1, 1) := by decide +kernel
theorem dp10m4_57 : decode prog_10_method_4_code 57 = .ok (.iadd, 1) := by decide +kernel
theorem dp10m4_58 : decode prog_10_method_4_code 58 = .ok (.istore 4, 2) := by decide +kernel
theorem dp10m4_60 : decode prog_10_method_4_code 60 = .ok (.iconst 1, 1) := by decide +kernel
theorem dp10m4_61 : decode prog_10_method_4_code 61 = .ok (.istore 5, 2) := by decide +kernel
theorem dp10m4_63 : decode prog_10_method_4_code 63 = .ok (.goto 53, 3) := by decide +kernel
theorem dp10m4_66 : decode prog_10_method_4_code 66 = .ok (.iload 7, 2) := by decide +kernel
theorem dp10m4_68 : decode prog_10_method_4_code 68 = .ok (.invokestatic 68, 3) := by decide +kernel
theorem dp10m4_71 : decode prog_10_method_4_code 71 = .ok (.ifCond .ne 10, 3) := by decide +kernel
theorem dp10m4_74 : decode prog_10_method_4_code 74 = .ok (.iload 7, 2) := by decide +kernel
theorem dp10m4_76 : decode prog_10_method_4_code 76 = .ok (.bipush 45, 2) := by decide +kernel
theorem dp10m4_78 : decode prog_10_method_4_code 78 = .ok (.if_icmp .ne 44, 3) := by decide +kernel
theorem dp10m4_81 : decode prog_10_method_4_code 81 = .ok (.iload 5, 2) := by decide +kernel
theorem dp10m4_83 : decode prog_10_method_4_code 83 = .ok (.iload 7, 2) := by decide +kernel
theorem dp10m4_85 : decode prog_10_method_4_code 85 = .ok (.invokestatic 81, 3) := by decide +kernel
theorem dp10m4_88 : decode prog_10_method_4_code 88 = .ok (.iand, 1) := by decide +kernel
theorem dp10m4_89 : decode prog_10_method_4_code 89 = .ok (.istore 5, 2) := by decide +kernel
theorem dp10m4_91 : decode prog_10_method_4_code 91 = .ok (.iload_n 3, 1) := by decide +kernel
theorem dp10m4_92 : decode prog_10_method_4_code 92 = .ok (.ifCond .le 24, 3) := by decide +kernel
theorem dp10m4_95 : decode prog_10_method_4_code 95 = .ok (.iload 5, 2) := by decide +kernel
theorem dp10m4_97 : decode prog_10_method_4_code 97 = .ok (.ifCond .eq 19, 3) := by decide +kernel
theorem dp10m4_100 : decode prog_10_method_4_code 100 = .ok (.iload 6, 2) := by decide +kernel
theorem dp10m4_102 : decode prog_10_method_4_code 102 = .ok (.iconst 1, 1) := by decide +kernel
theorem dp10m4_103 : decode prog_10_method_4_code 103 = .ok (.iadd, 1) := by decide +kernel
theorem dp10m4_104 : decode prog_10_method_4_code 104 = .ok (.iload 4, 2) := by decide +kernel
theorem dp10m4_106 : decode prog_10_method_4_code 106 = .ok (.isub, 1) := by decide +kernel
theorem dp10m4_107 : decode prog_10_method_4_code 107 = .ok (.iconst 2, 1) := by decide +kernel
theorem dp10m4_108 : decode prog_10_method_4_code 108 = .ok (.if_icmp .lt 8, 3) := by decide +kernel
theorem dp10m4_111 : decode prog_10_method_4_code 111 = .ok (.iload 6, 2) := by decide +kernel
theorem dp10m4_113 : decode prog_10_method_4_code 113 = .ok (.iconst 1, 1) := by decide +kernel
theorem dp10m4_114 : decode prog_10_method_4_code 114 = .ok (.iadd, 1) := by decide +kernel
theorem dp10m4_115 : decode prog_10_method_4_code 115 = .ok (.istore_n 2, 1) := by decide +kernel
theorem dp10m4_116 : decode prog_10_method_4_code 116 = .ok (.iinc 6 1, 3) := by decide +kernel
theorem dp10m4_119 : decode prog_10_method_4_code 119 = .ok (.goto (-106), 3) := by decide +kernel
theorem dp10m4_122 : decode prog_10_method_4_code 122 = .ok (.iload_n 2, 1) := by decide +kernel
theorem dp10m4_123 : decode prog_10_method_4_code 123 = .ok (.ireturn, 1) := by decide +kernel
theorem pd2 : parseMethodDescriptor "()I" = some ⟨[], some .int⟩ := by decide +kernel
theorem pd3 : parseMethodDescriptor "(I)C" = some ⟨[.int], some .char⟩ := by decide +kernel
theorem ef_RI_8 (m : MethodId) (x0 : Addr) (x1 : Int32) : entryFrame m #[(.ref x0), (.int x1)] 8 = mkF m 0 #[.val (.ref x0), .val (.int x1), .unset, .unset, .unset, .unset, .unset, .unset] [] := by first | (simp [entryFrame, mkF, argsToLocals, Value.category]; done) | rfl
theorem pd4 : parseMethodDescriptor "(II)C" = some ⟨[.int, .int], some .char⟩ := by decide +kernel
theorem pd5 : parseMethodDescriptor "([CCCII)C" = some ⟨[(.array .char), .char, .char, .int, .int], some .char⟩ := by decide +kernel
theorem pd6 : parseMethodDescriptor "([C)V" = some ⟨[(.array .char)], none⟩ := by decide +kernel
theorem pd7 : parseMethodDescriptor "(Ljava/lang/CharSequence;I)I" = some ⟨[(.object "java/lang/CharSequence"), .int], some .int⟩ := by decide +kernel
theorem ef_JJII_maxLocals (m : MethodId) (x0 : Int64) (x1 : Int64) (x2 : Int32) (x3 : Int32) : entryFrame m #[(.long x0), (.long x1), (.int x2), (.int x3)] maxLocals = mkF m 0 #[.val (.long x0), .second, .val (.long x1), .second, .val (.int x2), .val (.int x3), .unset, .unset, .unset, .unset, .unset, .unset, .unset, .unset, .unset, .unset, .unset, .unset, .unset, .unset, .unset, .unset, .unset, .unset, .unset, .unset, .unset, .unset, .unset, .unset] [] := by first | (simp [entryFrame, mkF, argsToLocals, Value.category, maxLocals]; done) | rfl
def Q0 (h0 : Heap) (n0 : Nat) (v : Option Value) (h : Heap) (L : List Loc) : Prop := v = some (.int 1) ∧ Fr n0 L

theorem own_nb (x : Int32) : nar .byte (x.toInt8.toInt32) = x.toInt8.toInt32 := by
  show x.toInt8.toInt32.toInt8.toInt32 = _
  have a := c_i2b x
  have b := c_i2b x.toInt8.toInt32
  rw [← Int32.toInt_inj]
  omega
theorem own_nb2 (x : Int32) : x.toInt8.toInt32.toInt8.toInt32 = x.toInt8.toInt32 := own_nb x
theorem own_i2c {x : Int32} (h : 0 ≤ x.toInt ∧ x.toInt ≤ 65535) : x.toUInt32.toUInt16.toUInt32.toInt32 = x := by
  have q := c_i2c x
  rw [← Int32.toInt_inj]
  omega
theorem own_narc {x : Int32} (h : 0 ≤ x.toInt ∧ x.toInt ≤ 65535) : nar .char x = x := own_i2c h
theorem own_up {x : Int32} (h : 0 ≤ x.toInt ∧ x.toInt ≤ 255) : 0 ≤ x.toInt ∧ x.toInt ≤ 65535 := by omega
theorem own_l97 : (97 : Int32).toInt = 97 := rfl
theorem own_l122 : (122 : Int32).toInt = 122 := rfl
theorem own_l65 : (65 : Int32).toInt = 65 := rfl
theorem own_l90 : (90 : Int32).toInt = 90 := rfl
theorem own_l48 : (48 : Int32).toInt = 48 := rfl
theorem own_l57 : (57 : Int32).toInt = 57 := rfl
theorem own_l46 : (46 : Int32).toInt = 46 := rfl
theorem own_l45 : (45 : Int32).toInt = 45 := rfl
theorem own_l64 : (64 : Int32).toInt = 64 := rfl
theorem own_l0 : (0 : Int32).toInt = 0 := rfl
theorem own_l1 : (1 : Int32).toInt = 1 := rfl
theorem own_l2 : (2 : Int32).toInt = 2 := rfl
theorem own_l26 : (26 : Int32).toInt = 26 := rfl
theorem own_l10 : (10 : Int32).toInt = 10 := rfl

def own_let (c : Int32) : Int32 := if c < 97 then (if c < 65 then 0 else if 90 < c then 0 else 1) else if 122 < c then (if c < 65 then 0 else if 90 < c then 0 else 1) else 1
def own_ld (c : Int32) : Int32 := if own_let c = 0 then (if c < 48 then 0 else if 57 < c then 0 else 1) else 1
def own_isA (c : Int32) : Int32 := if own_let c = 0 then (if c < 48 then (if c = 45 then 1 else if c = 46 then 1 else 0) else if 57 < c then (if c = 45 then 1 else if c = 46 then 1 else 0) else 1) else 1
def own_dt (c : Int32) : Int32 := if c = 46 then 1 else 0
def own_en (i : Nat) (en dots ls lo : Int32) : Int32 := if 0 < dots then (if lo = 0 then en else if Int32.ofNat i + 1 - ls < 2 then en else Int32.ofNat (i + 1)) else en
def own_run (cs : List Int32) : Nat → Nat → Int32 → Int32 → Int32 → Int32 → Int32
  | 0, _, en, _, _, _ => en
  | f + 1, i, en, dots, ls, lo =>
    if cs.getD i 0 = 46 then (if Int32.ofNat i = ls then en else own_run cs f (i + 1) en (dots + 1) (Int32.ofNat (i + 1)) 1)
    else if own_ld (cs.getD i 0) = 0 then (if cs.getD i 0 = 45 then own_run cs f (i + 1) (own_en i en dots ls (lo &&& own_let (cs.getD i 0))) dots ls (lo &&& own_let (cs.getD i 0)) else en)
    else own_run cs f (i + 1) (own_en i en dots ls (lo &&& own_let (cs.getD i 0))) dots ls (lo &&& own_let (cs.getD i 0))
theorem own_succ (i : Nat) : Int32.ofNat i + (1 : Int32) = Int32.ofNat (i + 1) := by rw [Int32.ofNat_add]; rfl
theorem own_cmp {i n : Nat} (hn : n ≤ 4000) (hi : i ≤ n) : Int32.ofNat i < Int32.ofNat n ↔ i < n := by
  rw [Int32.lt_iff_toInt_lt, Int32.toInt_ofNat_small (by omega), Int32.toInt_ofNat_small (by omega)]
  omega
theorem own_upl (cs : List Int32) (h : ∀ c ∈ cs, ¬ c < 0 ∧ ¬ (255 : Int32) < c) : ∀ c ∈ cs, ¬ c < 0 ∧ ¬ (65535 : Int32) < c := fun c hc => ⟨(h c hc).1, fun q => (h c hc).2 (by rw [Int32.lt_iff_toInt_lt] at q ⊢; have e1 : (65535 : Int32).toInt = 65535 := rfl; have e2 : (255 : Int32).toInt = 255 := rfl; omega)⟩
theorem own_ch {c : Int32} (h : 0 ≤ c.toInt ∧ c.toInt ≤ 255) : ¬ c < 0 ∧ ¬ (255 : Int32) < c := by
  have e1 : (0 : Int32).toInt = 0 := rfl
  have e2 : (255 : Int32).toInt = 255 := rfl
  simp only [Int32.lt_iff_toInt_lt, e1, e2]
  omega
theorem own_pk {k x n : Int32} (m : Int) (hn : n.toInt = m) (hm : 0 < m) (hx : 0 ≤ x.toInt ∧ x.toInt ≤ 255) (hk : 0 ≤ k.toInt ∧ k.toInt + m ≤ 256) : 0 ≤ (nar .char ((k + x % n).toUInt32.toUInt16.toUInt32.toInt32)).toInt ∧ (nar .char ((k + x % n).toUInt32.toUInt16.toUInt32.toInt32)).toInt ≤ 255 := by
  have q := (c_irem x n m hn).1 hx.1
  have r1 := Int.emod_nonneg x.toInt (show m ≠ 0 by omega)
  have r2 := Int.emod_lt_of_pos x.toInt hm
  have a := c_iadd k (x % n)
  have r := rng32 (k + x % n)
  have e : (k + x % n).toInt = k.toInt + (x % n).toInt := by omega
  have b : 0 ≤ (k + x % n).toInt ∧ (k + x % n).toInt ≤ 65535 := by omega
  rw [own_i2c b, own_narc b]
  omega
theorem own_pr {x : Int32} (hx : 0 ≤ x.toInt ∧ x.toInt ≤ 255) : 0 ≤ (nar .char (x.toUInt32.toUInt16.toUInt32.toInt32)).toInt ∧ (nar .char (x.toUInt32.toUInt16.toUInt32.toInt32)).toInt ≤ 255 := by
  rw [own_i2c (own_up hx), own_narc (own_up hx)]
  exact hx
theorem own_m255 (x : Int32) : 0 ≤ (x &&& 255).toInt ∧ (x &&& 255).toInt ≤ 255 := c_and x 255 (by decide)
theorem own_mL (x : Int64) : 0 ≤ ((x &&& 255).toInt32).toInt ∧ ((x &&& 255).toInt32).toInt ≤ 255 := by
  have a := c_maskL x 255 8 (by decide) (by decide)
  have b := c_l2i (x &&& 255)
  have r := rng32 (x &&& 255).toInt32
  have m1 := Int.emod_nonneg x.toInt (show ((2 ^ 8 : Nat) : Int) ≠ 0 by decide)
  have m2 := Int.emod_lt_of_pos x.toInt (show (0 : Int) < ((2 ^ 8 : Nat) : Int) by decide)
  have e : ((2 ^ 8 : Nat) : Int) = 256 := rfl
  omega
def own_x (a b : Int32) : Int32 := if a = 0 then 1 else if b = 0 then 1 else 0
def own_g4 (a0 a1 a2 a3 d0 d1 d2 d3 : Int32) : Int32 := if a0 = 0 then 0 else if a1 = 0 then 0 else if a2 = 0 then 0 else if a3 = 0 then 0 else if d0 = 0 then (if d1 = 0 then own_x d2 d3 else if d2 = 0 then own_x d2 d3 else 0) else 0
def own_g5 (g a d e : Int32) : Int32 := if g = 0 then 0 else if a = 0 then 0 else own_x d e
def own_t4 (d1 l2 l3 : Int32) : Int32 := if d1 = 0 then 0 else if l2 = 0 then 0 else if l3 = 0 then 0 else 1
def own_y (d2 l2 d1 : Int32) : Int32 := if d2 = 0 then (if l2 = 0 then 0 else if d1 = 0 then 0 else 1) else 1
def own_t5 (l3 l4 d2 l2 d1 : Int32) : Int32 := if l3 = 0 then 0 else if l4 = 0 then 0 else own_y d2 l2 d1
def own_t6 (l4 l5 d3 l3 d2 l2 d1 : Int32) : Int32 := if l4 = 0 then 0 else if l5 = 0 then 0 else if d3 = 0 then (if l3 = 0 then 0 else own_y d2 l2 d1) else 1
def own_ex4 (k g4 t4 : Int32) : Int32 := if g4 = 0 then -1 else if t4 = 0 then -1 else k + 4
def own_ex5 (k g5 t5 g4 t4 : Int32) : Int32 := if g5 = 0 then own_ex4 k g4 t4 else if t5 = 0 then own_ex4 k g4 t4 else k + 5
def own_ex (k g6 t6 g5 t5 g4 t4 : Int32) : Int32 := if g6 = 0 then own_ex5 k g5 t5 g4 t4 else if t6 = 0 then own_ex5 k g5 t5 g4 t4 else k + 6
def own_fin (k c0 c1 c2 c3 c4 c5 : Int32) : Int32 :=
  own_ex k (own_g5 (own_g5 (own_g4 (own_isA c0) (own_isA c1) (own_isA c2) (own_isA c3) (own_dt c0) (own_dt c1) (own_dt c2) (own_dt c3)) (own_isA c4) (own_dt c3) (own_dt c4)) (own_isA c5) (own_dt c4) (own_dt c5))
    (own_t6 (own_let c4) (own_let c5) (own_dt c3) (own_let c3) (own_dt c2) (own_let c2) (own_dt c1))
    (own_g5 (own_g4 (own_isA c0) (own_isA c1) (own_isA c2) (own_isA c3) (own_dt c0) (own_dt c1) (own_dt c2) (own_dt c3)) (own_isA c4) (own_dt c3) (own_dt c4))
    (own_t5 (own_let c3) (own_let c4) (own_dt c2) (own_let c2) (own_dt c1))
    (own_g4 (own_isA c0) (own_isA c1) (own_isA c2) (own_isA c3) (own_dt c0) (own_dt c1) (own_dt c2) (own_dt c3)) (own_t4 (own_dt c1) (own_let c2) (own_let c3))

theorem own_3 (x : Int32) : (x &&& (2147483647 : Int32)) % (3 : Int32) = 0 ∨ (x &&& (2147483647 : Int32)) % (3 : Int32) = 1 ∨ (x &&& (2147483647 : Int32)) % (3 : Int32) = 2 := by
  have h := c_and x 2147483647 (by decide)
  have q := (c_irem (x &&& 2147483647) 3 3 rfl).1 h.1
  have l0 : (0 : Int32).toInt = 0 := rfl
  have l1 : (1 : Int32).toInt = 1 := rfl
  have l2 : (2 : Int32).toInt = 2 := rfl
  simp only [← Int32.toInt_inj, l0, l1, l2]
  omega

def Q1 (p1 : Int32) (h0 : Heap) (n0 : Nat) (v : Option Value) (h : Heap) (L : List Loc) : Prop := v = some (.int (own_let p1)) ∧ Fr n0 L ∧ h = h0

set_option maxRecDepth 65536 in
set_option maxHeartbeats 40000000 in
theorem rm1 (l : Launch) (Z : State) (a0 : Array Value) (hw : ∀ d ∈ tables_1, d.before a0 Z = true) (ws : List Jvm.Cond) (p1 : Int32) (h0 : Heap) (n0 : Nat)  :
    own_Met l (⟨"com/example/cited_experts/citedexperts/EmailAddress", "isAsciiLetter", "(I)Z"⟩ : MethodName) prog_10_method_5_code 1 (some .boolean) ws own_R_0_0_0_0 Z #[(.int p1)] h0 (Q1 p1 h0 n0) := by
  refine own_enter #[.val (.int p1)] (plainFor_of_name pn_com_example_cited_experts_citedexperts_EmailAddress) (fun m => ef_I_1 m p1) ?_
  intro p e s m below meth c s₁ hx hby hml hown hnm hZ hrt hlk X0 e0
  have N0 := Fr.nil n0
  refine own_tp (.int p1) 1 (fun _ q => XS.iloadN X0.here hx rfl (hb hby dp10m5_0) rfl q) ?_
  refine own_tp (.int (97 : Int32)) 3 (fun _ q => XS.bipush X0.here hx rfl (hb hby dp10m5_1) q) ?_
  by_cases c51 : p1 < (97 : Int32)
  ·
    refine own_d2 12 (fun _ q => XS.icmpYes X0.here hx rfl (pc0 := 3) (pc' := 12) rfl (hb hby dp10m5_3) rfl (tlt c51).1 (by decide) (by decide) q) ?_
    refine own_tp (.int p1) 13 (fun _ q => XS.iloadN X0.here hx rfl (hb hby dp10m5_12) rfl q) ?_
    refine own_tp (.int (65 : Int32)) 15 (fun _ q => XS.bipush X0.here hx rfl (hb hby dp10m5_13) q) ?_
    by_cases c52 : p1 < (65 : Int32)
    ·
      refine own_d2 28 (fun _ q => XS.icmpYes X0.here hx rfl (pc0 := 15) (pc' := 28) rfl (hb hby dp10m5_15) rfl (tlt c52).1 (by decide) (by decide) q) ?_
      refine own_tp (.int (0 : Int32)) 29 (fun _ q => XS.iconst X0.here hx rfl (hb hby dp10m5_28) q) ?_
      exact own_retN (t := .boolean) X0 hx hrt (hb hby dp10m5_29) (by simp) hlk (by decide) (by decide) e0 (⟨by have hv : own_let p1 = (0 : Int32) := (by first | (simp only [own_let, c51, c52, ↓reduceIte]; done) | (simp [own_let, c51, c52]; done)); rw [hv] <;> rfl, N0, rfl⟩)
    ·
      refine own_d2 18 (fun _ q => XS.icmpNo X0.here hx rfl (hb hby dp10m5_15) rfl (flt c52).1 q) ?_
      refine own_tp (.int p1) 19 (fun _ q => XS.iloadN X0.here hx rfl (hb hby dp10m5_18) rfl q) ?_
      refine own_tp (.int (90 : Int32)) 21 (fun _ q => XS.bipush X0.here hx rfl (hb hby dp10m5_19) q) ?_
      by_cases c53 : (90 : Int32) < p1
      ·
        refine own_d2 28 (fun _ q => XS.icmpYes X0.here hx rfl (pc0 := 21) (pc' := 28) rfl (hb hby dp10m5_21) rfl (tlt c53).2.2.1 (by decide) (by decide) q) ?_
        refine own_tp (.int (0 : Int32)) 29 (fun _ q => XS.iconst X0.here hx rfl (hb hby dp10m5_28) q) ?_
        exact own_retN (t := .boolean) X0 hx hrt (hb hby dp10m5_29) (by simp) hlk (by decide) (by decide) e0 (⟨by have hv : own_let p1 = (0 : Int32) := (by first | (simp only [own_let, c51, c52, c53, ↓reduceIte]; done) | (simp [own_let, c51, c52, c53]; done)); rw [hv] <;> rfl, N0, rfl⟩)
      ·
        refine own_d2 24 (fun _ q => XS.icmpNo X0.here hx rfl (hb hby dp10m5_21) rfl (flt c53).2.2.1 q) ?_
        refine own_tp (.int (1 : Int32)) 25 (fun _ q => XS.iconst X0.here hx rfl (hb hby dp10m5_24) q) ?_
        refine own_d0 29 (fun _ q => XS.goto X0.here hx rfl (pc0 := 25) (pc' := 29) rfl (hb hby dp10m5_25) (by decide) (by decide) q) ?_
        exact own_retN (t := .boolean) X0 hx hrt (hb hby dp10m5_29) (by simp) hlk (by decide) (by decide) e0 (⟨by have hv : own_let p1 = (1 : Int32) := (by first | (simp only [own_let, c51, c52, c53, ↓reduceIte]; done) | (simp [own_let, c51, c52, c53]; done)); rw [hv] <;> rfl, N0, rfl⟩)
  ·
    refine own_d2 6 (fun _ q => XS.icmpNo X0.here hx rfl (hb hby dp10m5_3) rfl (flt c51).1 q) ?_
    refine own_tp (.int p1) 7 (fun _ q => XS.iloadN X0.here hx rfl (hb hby dp10m5_6) rfl q) ?_
    refine own_tp (.int (122 : Int32)) 9 (fun _ q => XS.bipush X0.here hx rfl (hb hby dp10m5_7) q) ?_
    by_cases c54 : (122 : Int32) < p1
    ·
      refine own_d2 12 (fun _ q => XS.icmpNo X0.here hx rfl (hb hby dp10m5_9) rfl (tlt c54).2.2.2 q) ?_
      refine own_tp (.int p1) 13 (fun _ q => XS.iloadN X0.here hx rfl (hb hby dp10m5_12) rfl q) ?_
      refine own_tp (.int (65 : Int32)) 15 (fun _ q => XS.bipush X0.here hx rfl (hb hby dp10m5_13) q) ?_
      by_cases c55 : p1 < (65 : Int32)
      ·
        refine own_d2 28 (fun _ q => XS.icmpYes X0.here hx rfl (pc0 := 15) (pc' := 28) rfl (hb hby dp10m5_15) rfl (tlt c55).1 (by decide) (by decide) q) ?_
        refine own_tp (.int (0 : Int32)) 29 (fun _ q => XS.iconst X0.here hx rfl (hb hby dp10m5_28) q) ?_
        exact own_retN (t := .boolean) X0 hx hrt (hb hby dp10m5_29) (by simp) hlk (by decide) (by decide) e0 (⟨by have hv : own_let p1 = (0 : Int32) := (by first | (simp only [own_let, c51, c54, c55, ↓reduceIte]; done) | (simp [own_let, c51, c54, c55]; done)); rw [hv] <;> rfl, N0, rfl⟩)
      ·
        refine own_d2 18 (fun _ q => XS.icmpNo X0.here hx rfl (hb hby dp10m5_15) rfl (flt c55).1 q) ?_
        refine own_tp (.int p1) 19 (fun _ q => XS.iloadN X0.here hx rfl (hb hby dp10m5_18) rfl q) ?_
        refine own_tp (.int (90 : Int32)) 21 (fun _ q => XS.bipush X0.here hx rfl (hb hby dp10m5_19) q) ?_
        by_cases c56 : (90 : Int32) < p1
        ·
          refine own_d2 28 (fun _ q => XS.icmpYes X0.here hx rfl (pc0 := 21) (pc' := 28) rfl (hb hby dp10m5_21) rfl (tlt c56).2.2.1 (by decide) (by decide) q) ?_
          refine own_tp (.int (0 : Int32)) 29 (fun _ q => XS.iconst X0.here hx rfl (hb hby dp10m5_28) q) ?_
          exact own_retN (t := .boolean) X0 hx hrt (hb hby dp10m5_29) (by simp) hlk (by decide) (by decide) e0 (⟨by have hv : own_let p1 = (0 : Int32) := (by first | (simp only [own_let, c51, c54, c55, c56, ↓reduceIte]; done) | (simp [own_let, c51, c54, c55, c56]; done)); rw [hv] <;> rfl, N0, rfl⟩)
        ·
          refine own_d2 24 (fun _ q => XS.icmpNo X0.here hx rfl (hb hby dp10m5_21) rfl (flt c56).2.2.1 q) ?_
          refine own_tp (.int (1 : Int32)) 25 (fun _ q => XS.iconst X0.here hx rfl (hb hby dp10m5_24) q) ?_
          refine own_d0 29 (fun _ q => XS.goto X0.here hx rfl (pc0 := 25) (pc' := 29) rfl (hb hby dp10m5_25) (by decide) (by decide) q) ?_
          exact own_retN (t := .boolean) X0 hx hrt (hb hby dp10m5_29) (by simp) hlk (by decide) (by decide) e0 (⟨by have hv : own_let p1 = (1 : Int32) := (by first | (simp only [own_let, c51, c54, c55, c56, ↓reduceIte]; done) | (simp [own_let, c51, c54, c55, c56]; done)); rw [hv] <;> rfl, N0, rfl⟩)
    ·
      refine own_d2 24 (fun _ q => XS.icmpYes X0.here hx rfl (pc0 := 9) (pc' := 24) rfl (hb hby dp10m5_9) rfl (flt c54).2.2.2 (by decide) (by decide) q) ?_
      refine own_tp (.int (1 : Int32)) 25 (fun _ q => XS.iconst X0.here hx rfl (hb hby dp10m5_24) q) ?_
      refine own_d0 29 (fun _ q => XS.goto X0.here hx rfl (pc0 := 25) (pc' := 29) rfl (hb hby dp10m5_25) (by decide) (by decide) q) ?_
      exact own_retN (t := .boolean) X0 hx hrt (hb hby dp10m5_29) (by simp) hlk (by decide) (by decide) e0 (⟨by have hv : own_let p1 = (1 : Int32) := (by first | (simp only [own_let, c51, c54, ↓reduceIte]; done) | (simp [own_let, c51, c54]; done)); rw [hv] <;> rfl, N0, rfl⟩)

def Q2 (p1 : Int32) (h0 : Heap) (n0 : Nat) (v : Option Value) (h : Heap) (L : List Loc) : Prop := v = some (.int (own_ld p1)) ∧ Fr n0 L ∧ h = h0

set_option maxRecDepth 65536 in
set_option maxHeartbeats 40000000 in
theorem rm2 (l : Launch) (Z : State) (a0 : Array Value) (hw : ∀ d ∈ tables_1, d.before a0 Z = true) (ws : List Jvm.Cond) (p1 : Int32) (h0 : Heap) (n0 : Nat)  :
    own_Met l (⟨"com/example/cited_experts/citedexperts/EmailAddress", "isAsciiLetterOrDigit", "(I)Z"⟩ : MethodName) prog_10_method_6_code 1 (some .boolean) ws own_R_1_0_0_12 Z #[(.int p1)] h0 (Q2 p1 h0 n0) := by
  refine own_enter #[.val (.int p1)] (plainFor_of_name pn_com_example_cited_experts_citedexperts_EmailAddress) (fun m => ef_I_1 m p1) ?_
  intro p e s m below meth c s₁ hx hby hml hown hnm hZ hrt hlk X0 e0
  have N0 := Fr.nil n0
  refine own_tp (.int p1) 1 (fun _ q => XS.iloadN X0.here hx rfl (hb hby dp10m6_0) rfl q) ?_
  obtain ⟨_, _, ⟨T51, L51, k51, n51⟩, -, X51, ⟨Lc51, hQ51, l51, y51, z51⟩, st51⟩ := Jvm.LawKit.callS X0 hx (y := (⟨"com/example/cited_experts/citedexperts/EmailAddress", "isAsciiLetter", "(I)Z"⟩ : MethodName)) hown (mvT hZ (own_w hw 92 rfl)) (mvT hZ (own_w hw 93 rfl)) (mvT hZ (own_w hw 42 rfl)) (mvT hZ (own_w hw 94 rfl)) (by decide) (backOf (W := 0) (rm1 l Z a0 hw [] p1 h0 n0 ) hZ (own_w hw 94 rfl) (own_w hw 42 rfl) (by decide) (by decide)) (g := (mkF m 1 #[.val (.int p1)] [(.int p1)])) rfl (by rw [hml]; rfl) (argsL := [(.int p1)]) (rest := []) (lenOf pd0 rfl) rfl (by show 2 * 0 + _ ≤ _; exact Nat.le_of_eq rfl) (hb hby dp10m6_1) (fun _ _ => ⟨rfl, e0, (by decide : 0 + 0 ≤ _), (by decide : 0 + 0 ≤ _)⟩)
  dsimp only [Pt.U, Pt.locs, Pt.cells, Pt.slots] at X51 l51 y51 z51 st51 hQ51
  subst l51 y51 z51
  obtain ⟨rfl, Nq51, eq51⟩ := hQ51
  have N51 := Fr.app N0 Nq51
  refine own_t1 (.int (own_let p1)) 4 st51 ?_
  by_cases c52 : (own_let p1) = (0 : Int32)
  ·
    refine own_d1 7 (fun _ q => XS.ifNo X51.here hx rfl (hb hby dp10m6_4) rfl ((if0 _ _).trans (teq c52).2) q) ?_
    refine own_tp (.int p1) 8 (fun _ q => XS.iloadN X51.here hx rfl (hb hby dp10m6_7) rfl q) ?_
    refine own_tp (.int (48 : Int32)) 10 (fun _ q => XS.bipush X51.here hx rfl (hb hby dp10m6_8) q) ?_
    by_cases c53 : p1 < (48 : Int32)
    ·
      refine own_d2 23 (fun _ q => XS.icmpYes X51.here hx rfl (pc0 := 10) (pc' := 23) rfl (hb hby dp10m6_10) rfl (tlt c53).1 (by decide) (by decide) q) ?_
      refine own_tp (.int (0 : Int32)) 24 (fun _ q => XS.iconst X51.here hx rfl (hb hby dp10m6_23) q) ?_
      exact own_retN (t := .boolean) X51 hx hrt (hb hby dp10m6_24) (by simp) hlk (by decide) (by decide) eq51 (⟨by have hv : own_ld p1 = (0 : Int32) := (by first | (simp only [own_ld, c52, c53, ↓reduceIte]; done) | (simp [own_ld, c52, c53]; done)); rw [hv] <;> rfl, N51, rfl⟩)
    ·
      refine own_d2 13 (fun _ q => XS.icmpNo X51.here hx rfl (hb hby dp10m6_10) rfl (flt c53).1 q) ?_
      refine own_tp (.int p1) 14 (fun _ q => XS.iloadN X51.here hx rfl (hb hby dp10m6_13) rfl q) ?_
      refine own_tp (.int (57 : Int32)) 16 (fun _ q => XS.bipush X51.here hx rfl (hb hby dp10m6_14) q) ?_
      by_cases c54 : (57 : Int32) < p1
      ·
        refine own_d2 23 (fun _ q => XS.icmpYes X51.here hx rfl (pc0 := 16) (pc' := 23) rfl (hb hby dp10m6_16) rfl (tlt c54).2.2.1 (by decide) (by decide) q) ?_
        refine own_tp (.int (0 : Int32)) 24 (fun _ q => XS.iconst X51.here hx rfl (hb hby dp10m6_23) q) ?_
        exact own_retN (t := .boolean) X51 hx hrt (hb hby dp10m6_24) (by simp) hlk (by decide) (by decide) eq51 (⟨by have hv : own_ld p1 = (0 : Int32) := (by first | (simp only [own_ld, c52, c53, c54, ↓reduceIte]; done) | (simp [own_ld, c52, c53, c54]; done)); rw [hv] <;> rfl, N51, rfl⟩)
      ·
        refine own_d2 19 (fun _ q => XS.icmpNo X51.here hx rfl (hb hby dp10m6_16) rfl (flt c54).2.2.1 q) ?_
        refine own_tp (.int (1 : Int32)) 20 (fun _ q => XS.iconst X51.here hx rfl (hb hby dp10m6_19) q) ?_
        refine own_d0 24 (fun _ q => XS.goto X51.here hx rfl (pc0 := 20) (pc' := 24) rfl (hb hby dp10m6_20) (by decide) (by decide) q) ?_
        exact own_retN (t := .boolean) X51 hx hrt (hb hby dp10m6_24) (by simp) hlk (by decide) (by decide) eq51 (⟨by have hv : own_ld p1 = (1 : Int32) := (by first | (simp only [own_ld, c52, c53, c54, ↓reduceIte]; done) | (simp [own_ld, c52, c53, c54]; done)); rw [hv] <;> rfl, N51, rfl⟩)
  ·
    refine own_d1 19 (fun _ q => XS.ifYes X51.here hx rfl (pc0 := 4) (pc' := 19) rfl (hb hby dp10m6_4) rfl ((if0 _ _).trans (feq c52).2) (by decide) (by decide) q) ?_
    refine own_tp (.int (1 : Int32)) 20 (fun _ q => XS.iconst X51.here hx rfl (hb hby dp10m6_19) q) ?_
    refine own_d0 24 (fun _ q => XS.goto X51.here hx rfl (pc0 := 20) (pc' := 24) rfl (hb hby dp10m6_20) (by decide) (by decide) q) ?_
    exact own_retN (t := .boolean) X51 hx hrt (hb hby dp10m6_24) (by simp) hlk (by decide) (by decide) eq51 (⟨by have hv : own_ld p1 = (1 : Int32) := (by first | (simp only [own_ld, c52, ↓reduceIte]; done) | (simp [own_ld, c52]; done)); rw [hv] <;> rfl, N51, rfl⟩)

def Q3 (p1 : Int32) (h0 : Heap) (n0 : Nat) (v : Option Value) (h : Heap) (L : List Loc) : Prop := v = some (.int (own_let p1)) ∧ Fr n0 L ∧ h = h0

set_option maxRecDepth 65536 in
set_option maxHeartbeats 40000000 in
theorem rm3 (l : Launch) (Z : State) (a0 : Array Value) (hw : ∀ d ∈ tables_1, d.before a0 Z = true) (ws : List Jvm.Cond) (p1 : Int32) (h0 : Heap) (n0 : Nat)  :
    own_Met l (⟨"com/example/cited_experts/citedexperts/EmailAddressHostEndPinLaw", "isL", "(C)Z"⟩ : MethodName) method_5_code 1 (some .boolean) ws own_R_0_0_0_0 Z #[(.int p1)] h0 (Q3 p1 h0 n0) := by
  refine own_enter #[.val (.int p1)] (plainFor_of_name pn_com_example_cited_experts_citedexperts_EmailAddressHostEndPinLaw) (fun m => ef_I_1 m p1) ?_
  intro p e s m below meth c s₁ hx hby hml hown hnm hZ hrt hlk X0 e0
  have N0 := Fr.nil n0
  refine own_tp (.int p1) 1 (fun _ q => XS.iloadN X0.here hx rfl (hb hby dq5_0) rfl q) ?_
  refine own_tp (.int (97 : Int32)) 3 (fun _ q => XS.bipush X0.here hx rfl (hb hby dq5_1) q) ?_
  by_cases c51 : p1 < (97 : Int32)
  ·
    refine own_d2 12 (fun _ q => XS.icmpYes X0.here hx rfl (pc0 := 3) (pc' := 12) rfl (hb hby dq5_3) rfl (tlt c51).1 (by decide) (by decide) q) ?_
    refine own_tp (.int p1) 13 (fun _ q => XS.iloadN X0.here hx rfl (hb hby dq5_12) rfl q) ?_
    refine own_tp (.int (65 : Int32)) 15 (fun _ q => XS.bipush X0.here hx rfl (hb hby dq5_13) q) ?_
    by_cases c52 : p1 < (65 : Int32)
    ·
      refine own_d2 28 (fun _ q => XS.icmpYes X0.here hx rfl (pc0 := 15) (pc' := 28) rfl (hb hby dq5_15) rfl (tlt c52).1 (by decide) (by decide) q) ?_
      refine own_tp (.int (0 : Int32)) 29 (fun _ q => XS.iconst X0.here hx rfl (hb hby dq5_28) q) ?_
      exact own_retN (t := .boolean) X0 hx hrt (hb hby dq5_29) (by simp) hlk (by decide) (by decide) e0 (⟨by have hv : own_let p1 = (0 : Int32) := (by first | (simp only [own_let, c51, c52, ↓reduceIte]; done) | (simp [own_let, c51, c52]; done)); rw [hv] <;> rfl, N0, rfl⟩)
    ·
      refine own_d2 18 (fun _ q => XS.icmpNo X0.here hx rfl (hb hby dq5_15) rfl (flt c52).1 q) ?_
      refine own_tp (.int p1) 19 (fun _ q => XS.iloadN X0.here hx rfl (hb hby dq5_18) rfl q) ?_
      refine own_tp (.int (90 : Int32)) 21 (fun _ q => XS.bipush X0.here hx rfl (hb hby dq5_19) q) ?_
      by_cases c53 : (90 : Int32) < p1
      ·
        refine own_d2 28 (fun _ q => XS.icmpYes X0.here hx rfl (pc0 := 21) (pc' := 28) rfl (hb hby dq5_21) rfl (tlt c53).2.2.1 (by decide) (by decide) q) ?_
        refine own_tp (.int (0 : Int32)) 29 (fun _ q => XS.iconst X0.here hx rfl (hb hby dq5_28) q) ?_
        exact own_retN (t := .boolean) X0 hx hrt (hb hby dq5_29) (by simp) hlk (by decide) (by decide) e0 (⟨by have hv : own_let p1 = (0 : Int32) := (by first | (simp only [own_let, c51, c52, c53, ↓reduceIte]; done) | (simp [own_let, c51, c52, c53]; done)); rw [hv] <;> rfl, N0, rfl⟩)
      ·
        refine own_d2 24 (fun _ q => XS.icmpNo X0.here hx rfl (hb hby dq5_21) rfl (flt c53).2.2.1 q) ?_
        refine own_tp (.int (1 : Int32)) 25 (fun _ q => XS.iconst X0.here hx rfl (hb hby dq5_24) q) ?_
        refine own_d0 29 (fun _ q => XS.goto X0.here hx rfl (pc0 := 25) (pc' := 29) rfl (hb hby dq5_25) (by decide) (by decide) q) ?_
        exact own_retN (t := .boolean) X0 hx hrt (hb hby dq5_29) (by simp) hlk (by decide) (by decide) e0 (⟨by have hv : own_let p1 = (1 : Int32) := (by first | (simp only [own_let, c51, c52, c53, ↓reduceIte]; done) | (simp [own_let, c51, c52, c53]; done)); rw [hv] <;> rfl, N0, rfl⟩)
  ·
    refine own_d2 6 (fun _ q => XS.icmpNo X0.here hx rfl (hb hby dq5_3) rfl (flt c51).1 q) ?_
    refine own_tp (.int p1) 7 (fun _ q => XS.iloadN X0.here hx rfl (hb hby dq5_6) rfl q) ?_
    refine own_tp (.int (122 : Int32)) 9 (fun _ q => XS.bipush X0.here hx rfl (hb hby dq5_7) q) ?_
    by_cases c54 : (122 : Int32) < p1
    ·
      refine own_d2 12 (fun _ q => XS.icmpNo X0.here hx rfl (hb hby dq5_9) rfl (tlt c54).2.2.2 q) ?_
      refine own_tp (.int p1) 13 (fun _ q => XS.iloadN X0.here hx rfl (hb hby dq5_12) rfl q) ?_
      refine own_tp (.int (65 : Int32)) 15 (fun _ q => XS.bipush X0.here hx rfl (hb hby dq5_13) q) ?_
      by_cases c55 : p1 < (65 : Int32)
      ·
        refine own_d2 28 (fun _ q => XS.icmpYes X0.here hx rfl (pc0 := 15) (pc' := 28) rfl (hb hby dq5_15) rfl (tlt c55).1 (by decide) (by decide) q) ?_
        refine own_tp (.int (0 : Int32)) 29 (fun _ q => XS.iconst X0.here hx rfl (hb hby dq5_28) q) ?_
        exact own_retN (t := .boolean) X0 hx hrt (hb hby dq5_29) (by simp) hlk (by decide) (by decide) e0 (⟨by have hv : own_let p1 = (0 : Int32) := (by first | (simp only [own_let, c51, c54, c55, ↓reduceIte]; done) | (simp [own_let, c51, c54, c55]; done)); rw [hv] <;> rfl, N0, rfl⟩)
      ·
        refine own_d2 18 (fun _ q => XS.icmpNo X0.here hx rfl (hb hby dq5_15) rfl (flt c55).1 q) ?_
        refine own_tp (.int p1) 19 (fun _ q => XS.iloadN X0.here hx rfl (hb hby dq5_18) rfl q) ?_
        refine own_tp (.int (90 : Int32)) 21 (fun _ q => XS.bipush X0.here hx rfl (hb hby dq5_19) q) ?_
        by_cases c56 : (90 : Int32) < p1
        ·
          refine own_d2 28 (fun _ q => XS.icmpYes X0.here hx rfl (pc0 := 21) (pc' := 28) rfl (hb hby dq5_21) rfl (tlt c56).2.2.1 (by decide) (by decide) q) ?_
          refine own_tp (.int (0 : Int32)) 29 (fun _ q => XS.iconst X0.here hx rfl (hb hby dq5_28) q) ?_
          exact own_retN (t := .boolean) X0 hx hrt (hb hby dq5_29) (by simp) hlk (by decide) (by decide) e0 (⟨by have hv : own_let p1 = (0 : Int32) := (by first | (simp only [own_let, c51, c54, c55, c56, ↓reduceIte]; done) | (simp [own_let, c51, c54, c55, c56]; done)); rw [hv] <;> rfl, N0, rfl⟩)
        ·
          refine own_d2 24 (fun _ q => XS.icmpNo X0.here hx rfl (hb hby dq5_21) rfl (flt c56).2.2.1 q) ?_
          refine own_tp (.int (1 : Int32)) 25 (fun _ q => XS.iconst X0.here hx rfl (hb hby dq5_24) q) ?_
          refine own_d0 29 (fun _ q => XS.goto X0.here hx rfl (pc0 := 25) (pc' := 29) rfl (hb hby dq5_25) (by decide) (by decide) q) ?_
          exact own_retN (t := .boolean) X0 hx hrt (hb hby dq5_29) (by simp) hlk (by decide) (by decide) e0 (⟨by have hv : own_let p1 = (1 : Int32) := (by first | (simp only [own_let, c51, c54, c55, c56, ↓reduceIte]; done) | (simp [own_let, c51, c54, c55, c56]; done)); rw [hv] <;> rfl, N0, rfl⟩)
    ·
      refine own_d2 24 (fun _ q => XS.icmpYes X0.here hx rfl (pc0 := 9) (pc' := 24) rfl (hb hby dq5_9) rfl (flt c54).2.2.2 (by decide) (by decide) q) ?_
      refine own_tp (.int (1 : Int32)) 25 (fun _ q => XS.iconst X0.here hx rfl (hb hby dq5_24) q) ?_
      refine own_d0 29 (fun _ q => XS.goto X0.here hx rfl (pc0 := 25) (pc' := 29) rfl (hb hby dq5_25) (by decide) (by decide) q) ?_
      exact own_retN (t := .boolean) X0 hx hrt (hb hby dq5_29) (by simp) hlk (by decide) (by decide) e0 (⟨by have hv : own_let p1 = (1 : Int32) := (by first | (simp only [own_let, c51, c54, ↓reduceIte]; done) | (simp [own_let, c51, c54]; done)); rw [hv] <;> rfl, N0, rfl⟩)

def Q4 (p1 : Int32) (h0 : Heap) (n0 : Nat) (v : Option Value) (h : Heap) (L : List Loc) : Prop := v = some (.int (own_isA p1)) ∧ Fr n0 L ∧ h = h0

set_option maxRecDepth 65536 in
set_option maxHeartbeats 40000000 in
theorem rm4 (l : Launch) (Z : State) (a0 : Array Value) (hw : ∀ d ∈ tables_1, d.before a0 Z = true) (ws : List Jvm.Cond) (p1 : Int32) (h0 : Heap) (n0 : Nat)  :
    own_Met l (⟨"com/example/cited_experts/citedexperts/EmailAddressHostEndPinLaw", "isA", "(C)Z"⟩ : MethodName) method_6_code 1 (some .boolean) ws own_R_1_0_0_12 Z #[(.int p1)] h0 (Q4 p1 h0 n0) := by
  refine own_enter #[.val (.int p1)] (plainFor_of_name pn_com_example_cited_experts_citedexperts_EmailAddressHostEndPinLaw) (fun m => ef_I_1 m p1) ?_
  intro p e s m below meth c s₁ hx hby hml hown hnm hZ hrt hlk X0 e0
  have N0 := Fr.nil n0
  refine own_tp (.int p1) 1 (fun _ q => XS.iloadN X0.here hx rfl (hb hby dq6_0) rfl q) ?_
  obtain ⟨_, _, ⟨T51, L51, k51, n51⟩, -, X51, ⟨Lc51, hQ51, l51, y51, z51⟩, st51⟩ := Jvm.LawKit.callS X0 hx (y := (⟨"com/example/cited_experts/citedexperts/EmailAddressHostEndPinLaw", "isL", "(C)Z"⟩ : MethodName)) hown (mvT hZ (own_w hw 83 rfl)) (mvT hZ (own_w hw 84 rfl)) (mvT hZ (own_w hw 5 rfl)) (mvT hZ (own_w hw 85 rfl)) (by decide) (backOf (W := 0) (rm3 l Z a0 hw [] p1 h0 n0 ) hZ (own_w hw 85 rfl) (own_w hw 5 rfl) (by decide) (by decide)) (g := (mkF m 1 #[.val (.int p1)] [(.int p1)])) rfl (by rw [hml]; rfl) (argsL := [(.int p1)]) (rest := []) (lenOf pd1 rfl) rfl (by show 2 * 0 + _ ≤ _; exact Nat.le_of_eq rfl) (hb hby dq6_1) (fun _ _ => ⟨rfl, e0, (by decide : 0 + 0 ≤ _), (by decide : 0 + 0 ≤ _)⟩)
  dsimp only [Pt.U, Pt.locs, Pt.cells, Pt.slots] at X51 l51 y51 z51 st51 hQ51
  subst l51 y51 z51
  obtain ⟨rfl, Nq51, eq51⟩ := hQ51
  have N51 := Fr.app N0 Nq51
  refine own_t1 (.int (own_let p1)) 4 st51 ?_
  by_cases c52 : (own_let p1) = (0 : Int32)
  ·
    refine own_d1 7 (fun _ q => XS.ifNo X51.here hx rfl (hb hby dq6_4) rfl ((if0 _ _).trans (teq c52).2) q) ?_
    refine own_tp (.int p1) 8 (fun _ q => XS.iloadN X51.here hx rfl (hb hby dq6_7) rfl q) ?_
    refine own_tp (.int (48 : Int32)) 10 (fun _ q => XS.bipush X51.here hx rfl (hb hby dq6_8) q) ?_
    by_cases c53 : p1 < (48 : Int32)
    ·
      refine own_d2 19 (fun _ q => XS.icmpYes X51.here hx rfl (pc0 := 10) (pc' := 19) rfl (hb hby dq6_10) rfl (tlt c53).1 (by decide) (by decide) q) ?_
      refine own_tp (.int p1) 20 (fun _ q => XS.iloadN X51.here hx rfl (hb hby dq6_19) rfl q) ?_
      refine own_tp (.int (45 : Int32)) 22 (fun _ q => XS.bipush X51.here hx rfl (hb hby dq6_20) q) ?_
      by_cases c54 : p1 = (45 : Int32)
      ·
        refine own_d2 31 (fun _ q => XS.icmpYes X51.here hx rfl (pc0 := 22) (pc' := 31) rfl (hb hby dq6_22) rfl (teq c54).1 (by decide) (by decide) q) ?_
        refine own_tp (.int (1 : Int32)) 32 (fun _ q => XS.iconst X51.here hx rfl (hb hby dq6_31) q) ?_
        refine own_d0 36 (fun _ q => XS.goto X51.here hx rfl (pc0 := 32) (pc' := 36) rfl (hb hby dq6_32) (by decide) (by decide) q) ?_
        exact own_retN (t := .boolean) X51 hx hrt (hb hby dq6_36) (by simp) hlk (by decide) (by decide) eq51 (⟨by have hv : own_isA p1 = (1 : Int32) := (by first | (simp only [own_isA, c52, c53, c54, ↓reduceIte]; done) | (simp [own_isA, c52, c53, c54]; done)); rw [hv] <;> rfl, N51, rfl⟩)
      ·
        refine own_d2 25 (fun _ q => XS.icmpNo X51.here hx rfl (hb hby dq6_22) rfl (feq c54).1 q) ?_
        refine own_tp (.int p1) 26 (fun _ q => XS.iloadN X51.here hx rfl (hb hby dq6_25) rfl q) ?_
        refine own_tp (.int (46 : Int32)) 28 (fun _ q => XS.bipush X51.here hx rfl (hb hby dq6_26) q) ?_
        by_cases c55 : p1 = (46 : Int32)
        ·
          refine own_d2 31 (fun _ q => XS.icmpNo X51.here hx rfl (hb hby dq6_28) rfl (teq c55).2 q) ?_
          refine own_tp (.int (1 : Int32)) 32 (fun _ q => XS.iconst X51.here hx rfl (hb hby dq6_31) q) ?_
          refine own_d0 36 (fun _ q => XS.goto X51.here hx rfl (pc0 := 32) (pc' := 36) rfl (hb hby dq6_32) (by decide) (by decide) q) ?_
          exact own_retN (t := .boolean) X51 hx hrt (hb hby dq6_36) (by simp) hlk (by decide) (by decide) eq51 (⟨by have hv : own_isA p1 = (1 : Int32) := (by first | (simp only [own_isA, c52, c53, c54, c55, ↓reduceIte]; done) | (simp [own_isA, c52, c53, c54, c55]; done)); rw [hv] <;> rfl, N51, rfl⟩)
        ·
          refine own_d2 35 (fun _ q => XS.icmpYes X51.here hx rfl (pc0 := 28) (pc' := 35) rfl (hb hby dq6_28) rfl (feq c55).2 (by decide) (by decide) q) ?_
          refine own_tp (.int (0 : Int32)) 36 (fun _ q => XS.iconst X51.here hx rfl (hb hby dq6_35) q) ?_
          exact own_retN (t := .boolean) X51 hx hrt (hb hby dq6_36) (by simp) hlk (by decide) (by decide) eq51 (⟨by have hv : own_isA p1 = (0 : Int32) := (by first | (simp only [own_isA, c52, c53, c54, c55, ↓reduceIte]; done) | (simp [own_isA, c52, c53, c54, c55]; done)); rw [hv] <;> rfl, N51, rfl⟩)
    ·
      refine own_d2 13 (fun _ q => XS.icmpNo X51.here hx rfl (hb hby dq6_10) rfl (flt c53).1 q) ?_
      refine own_tp (.int p1) 14 (fun _ q => XS.iloadN X51.here hx rfl (hb hby dq6_13) rfl q) ?_
      refine own_tp (.int (57 : Int32)) 16 (fun _ q => XS.bipush X51.here hx rfl (hb hby dq6_14) q) ?_
      by_cases c56 : (57 : Int32) < p1
      ·
        refine own_d2 19 (fun _ q => XS.icmpNo X51.here hx rfl (hb hby dq6_16) rfl (tlt c56).2.2.2 q) ?_
        refine own_tp (.int p1) 20 (fun _ q => XS.iloadN X51.here hx rfl (hb hby dq6_19) rfl q) ?_
        refine own_tp (.int (45 : Int32)) 22 (fun _ q => XS.bipush X51.here hx rfl (hb hby dq6_20) q) ?_
        by_cases c57 : p1 = (45 : Int32)
        ·
          refine own_d2 31 (fun _ q => XS.icmpYes X51.here hx rfl (pc0 := 22) (pc' := 31) rfl (hb hby dq6_22) rfl (teq c57).1 (by decide) (by decide) q) ?_
          refine own_tp (.int (1 : Int32)) 32 (fun _ q => XS.iconst X51.here hx rfl (hb hby dq6_31) q) ?_
          refine own_d0 36 (fun _ q => XS.goto X51.here hx rfl (pc0 := 32) (pc' := 36) rfl (hb hby dq6_32) (by decide) (by decide) q) ?_
          exact own_retN (t := .boolean) X51 hx hrt (hb hby dq6_36) (by simp) hlk (by decide) (by decide) eq51 (⟨by have hv : own_isA p1 = (1 : Int32) := (by first | (simp only [own_isA, c52, c53, c56, c57, ↓reduceIte]; done) | (simp [own_isA, c52, c53, c56, c57]; done)); rw [hv] <;> rfl, N51, rfl⟩)
        ·
          refine own_d2 25 (fun _ q => XS.icmpNo X51.here hx rfl (hb hby dq6_22) rfl (feq c57).1 q) ?_
          refine own_tp (.int p1) 26 (fun _ q => XS.iloadN X51.here hx rfl (hb hby dq6_25) rfl q) ?_
          refine own_tp (.int (46 : Int32)) 28 (fun _ q => XS.bipush X51.here hx rfl (hb hby dq6_26) q) ?_
          by_cases c58 : p1 = (46 : Int32)
          ·
            refine own_d2 31 (fun _ q => XS.icmpNo X51.here hx rfl (hb hby dq6_28) rfl (teq c58).2 q) ?_
            refine own_tp (.int (1 : Int32)) 32 (fun _ q => XS.iconst X51.here hx rfl (hb hby dq6_31) q) ?_
            refine own_d0 36 (fun _ q => XS.goto X51.here hx rfl (pc0 := 32) (pc' := 36) rfl (hb hby dq6_32) (by decide) (by decide) q) ?_
            exact own_retN (t := .boolean) X51 hx hrt (hb hby dq6_36) (by simp) hlk (by decide) (by decide) eq51 (⟨by have hv : own_isA p1 = (1 : Int32) := (by first | (simp only [own_isA, c52, c53, c56, c57, c58, ↓reduceIte]; done) | (simp [own_isA, c52, c53, c56, c57, c58]; done)); rw [hv] <;> rfl, N51, rfl⟩)
          ·
            refine own_d2 35 (fun _ q => XS.icmpYes X51.here hx rfl (pc0 := 28) (pc' := 35) rfl (hb hby dq6_28) rfl (feq c58).2 (by decide) (by decide) q) ?_
            refine own_tp (.int (0 : Int32)) 36 (fun _ q => XS.iconst X51.here hx rfl (hb hby dq6_35) q) ?_
            exact own_retN (t := .boolean) X51 hx hrt (hb hby dq6_36) (by simp) hlk (by decide) (by decide) eq51 (⟨by have hv : own_isA p1 = (0 : Int32) := (by first | (simp only [own_isA, c52, c53, c56, c57, c58, ↓reduceIte]; done) | (simp [own_isA, c52, c53, c56, c57, c58]; done)); rw [hv] <;> rfl, N51, rfl⟩)
      ·
        refine own_d2 31 (fun _ q => XS.icmpYes X51.here hx rfl (pc0 := 16) (pc' := 31) rfl (hb hby dq6_16) rfl (flt c56).2.2.2 (by decide) (by decide) q) ?_
        refine own_tp (.int (1 : Int32)) 32 (fun _ q => XS.iconst X51.here hx rfl (hb hby dq6_31) q) ?_
        refine own_d0 36 (fun _ q => XS.goto X51.here hx rfl (pc0 := 32) (pc' := 36) rfl (hb hby dq6_32) (by decide) (by decide) q) ?_
        exact own_retN (t := .boolean) X51 hx hrt (hb hby dq6_36) (by simp) hlk (by decide) (by decide) eq51 (⟨by have hv : own_isA p1 = (1 : Int32) := (by first | (simp only [own_isA, c52, c53, c56, ↓reduceIte]; done) | (simp [own_isA, c52, c53, c56]; done)); rw [hv] <;> rfl, N51, rfl⟩)
  ·
    refine own_d1 31 (fun _ q => XS.ifYes X51.here hx rfl (pc0 := 4) (pc' := 31) rfl (hb hby dq6_4) rfl ((if0 _ _).trans (feq c52).2) (by decide) (by decide) q) ?_
    refine own_tp (.int (1 : Int32)) 32 (fun _ q => XS.iconst X51.here hx rfl (hb hby dq6_31) q) ?_
    refine own_d0 36 (fun _ q => XS.goto X51.here hx rfl (pc0 := 32) (pc' := 36) rfl (hb hby dq6_32) (by decide) (by decide) q) ?_
    exact own_retN (t := .boolean) X51 hx hrt (hb hby dq6_36) (by simp) hlk (by decide) (by decide) eq51 (⟨by have hv : own_isA p1 = (1 : Int32) := (by first | (simp only [own_isA, c52, ↓reduceIte]; done) | (simp [own_isA, c52]; done)); rw [hv] <;> rfl, N51, rfl⟩)

def Q5 (h0 : Heap) (n0 : Nat) (v : Option Value) (h : Heap) (L : List Loc) : Prop := ∃ z : Int32, v = some (.int z) ∧ (0 ≤ z.toInt ∧ z.toInt ≤ 255) ∧ Fr n0 L ∧ h = h0

set_option maxRecDepth 65536 in
set_option maxHeartbeats 40000000 in
theorem rm5 (l : Launch) (Z : State) (a0 : Array Value) (hw : ∀ d ∈ tables_1, d.before a0 Z = true) (ws : List Jvm.Cond) (p1 p2 : Int32) (h0 : Heap) (n0 : Nat) (hr : 0 ≤ p1.toInt ∧ p1.toInt ≤ 255) :
    own_Met l (⟨"com/example/cited_experts/citedexperts/EmailAddressHostEndPinLaw", "pick", "(II)C"⟩ : MethodName) method_3_code 2 (some .char) ws own_R_0_0_0_0 Z #[(.int p1), (.int p2)] h0 (Q5 h0 n0) := by
  refine own_enter #[.val (.int p1), .val (.int p2)] (plainFor_of_name pn_com_example_cited_experts_citedexperts_EmailAddressHostEndPinLaw) (fun m => ef_II_2 m p1 p2) ?_
  intro p e s m below meth c s₁ hx hby hml hown hnm hZ hrt hlk X0 e0
  have N0 := Fr.nil n0
  refine own_tp (.int p2) 1 (fun _ q => XS.iloadN X0.here hx rfl (hb hby dq3_0) rfl q) ?_
  refine own_tp (.int (1 : Int32)) 2 (fun _ q => XS.iconst X0.here hx rfl (hb hby dq3_1) q) ?_
  by_cases c51 : p2 = (1 : Int32)
  ·
    refine own_d2 11 (fun _ q => XS.icmpYes X0.here hx rfl (pc0 := 2) (pc' := 11) rfl (hb hby dq3_2) rfl (teq c51).1 (by decide) (by decide) q) ?_
    refine own_tp (.int (46 : Int32)) 13 (fun _ q => XS.bipush X0.here hx rfl (hb hby dq3_11) q) ?_
    exact own_retN (t := .char) X0 hx hrt (hb hby dq3_13) (by simp) hlk (by decide) (by decide) e0 (⟨_, rfl, ⟨by decide, by decide⟩, N0, rfl⟩)
  ·
    refine own_d2 5 (fun _ q => XS.icmpNo X0.here hx rfl (hb hby dq3_2) rfl (feq c51).1 q) ?_
    refine own_tp (.int p2) 6 (fun _ q => XS.iloadN X0.here hx rfl (hb hby dq3_5) rfl q) ?_
    refine own_tp (.int (7 : Int32)) 8 (fun _ q => XS.bipush X0.here hx rfl (hb hby dq3_6) q) ?_
    by_cases c52 : p2 = (7 : Int32)
    ·
      refine own_d2 11 (fun _ q => XS.icmpNo X0.here hx rfl (hb hby dq3_8) rfl (teq c52).2 q) ?_
      refine own_tp (.int (46 : Int32)) 13 (fun _ q => XS.bipush X0.here hx rfl (hb hby dq3_11) q) ?_
      exact own_retN (t := .char) X0 hx hrt (hb hby dq3_13) (by simp) hlk (by decide) (by decide) e0 (⟨_, rfl, ⟨by decide, by decide⟩, N0, rfl⟩)
    ·
      refine own_d2 14 (fun _ q => XS.icmpYes X0.here hx rfl (pc0 := 8) (pc' := 14) rfl (hb hby dq3_8) rfl (feq c52).2 (by decide) (by decide) q) ?_
      refine own_tp (.int p2) 15 (fun _ q => XS.iloadN X0.here hx rfl (hb hby dq3_14) rfl q) ?_
      refine own_tp (.int (2 : Int32)) 16 (fun _ q => XS.iconst X0.here hx rfl (hb hby dq3_15) q) ?_
      by_cases c53 : p2 = (2 : Int32)
      ·
        refine own_d2 19 (fun _ q => XS.icmpNo X0.here hx rfl (hb hby dq3_16) rfl (teq c53).2 q) ?_
        refine own_tp (.int (97 : Int32)) 21 (fun _ q => XS.bipush X0.here hx rfl (hb hby dq3_19) q) ?_
        refine own_tp (.int p1) 22 (fun _ q => XS.iloadN X0.here hx rfl (hb hby dq3_21) rfl q) ?_
        refine own_tp (.int (26 : Int32)) 24 (fun _ q => XS.bipush X0.here hx rfl (hb hby dq3_22) q) ?_
        refine own_t2 (.int (p1 % (26 : Int32))) 25 (fun _ q => iremM (g := (mkF m 24 #[.val (.int p1), .val (.int p2)] [(.int (26 : Int32)), (.int p1), (.int (97 : Int32))])) X0 hx rfl (hb hby dq3_24) rfl (by decide) q) ?_
        refine own_t2 (.int ((97 : Int32) + (p1 % (26 : Int32)))) 26 (fun _ q => XS.iadd X0.here hx rfl (hb hby dq3_25) rfl q) ?_
        refine own_t1 (.int (((97 : Int32) + (p1 % (26 : Int32))).toUInt32.toUInt16.toUInt32.toInt32)) 27 (fun _ q => XS.i2c X0.here hx rfl (hb hby dq3_26) rfl q) ?_
        exact own_retN (t := .char) X0 hx hrt (hb hby dq3_27) (by simp) hlk (by decide) (by decide) e0 (⟨_, rfl, own_pk 26 rfl (by decide) hr ⟨by decide, by decide⟩, N0, rfl⟩)
      ·
        refine own_d2 28 (fun _ q => XS.icmpYes X0.here hx rfl (pc0 := 16) (pc' := 28) rfl (hb hby dq3_16) rfl (feq c53).2 (by decide) (by decide) q) ?_
        refine own_tp (.int p2) 29 (fun _ q => XS.iloadN X0.here hx rfl (hb hby dq3_28) rfl q) ?_
        refine own_tp (.int (3 : Int32)) 30 (fun _ q => XS.iconst X0.here hx rfl (hb hby dq3_29) q) ?_
        by_cases c54 : p2 = (3 : Int32)
        ·
          refine own_d2 33 (fun _ q => XS.icmpNo X0.here hx rfl (hb hby dq3_30) rfl (teq c54).2 q) ?_
          refine own_tp (.int (65 : Int32)) 35 (fun _ q => XS.bipush X0.here hx rfl (hb hby dq3_33) q) ?_
          refine own_tp (.int p1) 36 (fun _ q => XS.iloadN X0.here hx rfl (hb hby dq3_35) rfl q) ?_
          refine own_tp (.int (26 : Int32)) 38 (fun _ q => XS.bipush X0.here hx rfl (hb hby dq3_36) q) ?_
          refine own_t2 (.int (p1 % (26 : Int32))) 39 (fun _ q => iremM (g := (mkF m 38 #[.val (.int p1), .val (.int p2)] [(.int (26 : Int32)), (.int p1), (.int (65 : Int32))])) X0 hx rfl (hb hby dq3_38) rfl (by decide) q) ?_
          refine own_t2 (.int ((65 : Int32) + (p1 % (26 : Int32)))) 40 (fun _ q => XS.iadd X0.here hx rfl (hb hby dq3_39) rfl q) ?_
          refine own_t1 (.int (((65 : Int32) + (p1 % (26 : Int32))).toUInt32.toUInt16.toUInt32.toInt32)) 41 (fun _ q => XS.i2c X0.here hx rfl (hb hby dq3_40) rfl q) ?_
          exact own_retN (t := .char) X0 hx hrt (hb hby dq3_41) (by simp) hlk (by decide) (by decide) e0 (⟨_, rfl, own_pk 26 rfl (by decide) hr ⟨by decide, by decide⟩, N0, rfl⟩)
        ·
          refine own_d2 42 (fun _ q => XS.icmpYes X0.here hx rfl (pc0 := 30) (pc' := 42) rfl (hb hby dq3_30) rfl (feq c54).2 (by decide) (by decide) q) ?_
          refine own_tp (.int p2) 43 (fun _ q => XS.iloadN X0.here hx rfl (hb hby dq3_42) rfl q) ?_
          refine own_tp (.int (4 : Int32)) 44 (fun _ q => XS.iconst X0.here hx rfl (hb hby dq3_43) q) ?_
          by_cases c55 : p2 = (4 : Int32)
          ·
            refine own_d2 47 (fun _ q => XS.icmpNo X0.here hx rfl (hb hby dq3_44) rfl (teq c55).2 q) ?_
            refine own_tp (.int (48 : Int32)) 49 (fun _ q => XS.bipush X0.here hx rfl (hb hby dq3_47) q) ?_
            refine own_tp (.int p1) 50 (fun _ q => XS.iloadN X0.here hx rfl (hb hby dq3_49) rfl q) ?_
            refine own_tp (.int (10 : Int32)) 52 (fun _ q => XS.bipush X0.here hx rfl (hb hby dq3_50) q) ?_
            refine own_t2 (.int (p1 % (10 : Int32))) 53 (fun _ q => iremM (g := (mkF m 52 #[.val (.int p1), .val (.int p2)] [(.int (10 : Int32)), (.int p1), (.int (48 : Int32))])) X0 hx rfl (hb hby dq3_52) rfl (by decide) q) ?_
            refine own_t2 (.int ((48 : Int32) + (p1 % (10 : Int32)))) 54 (fun _ q => XS.iadd X0.here hx rfl (hb hby dq3_53) rfl q) ?_
            refine own_t1 (.int (((48 : Int32) + (p1 % (10 : Int32))).toUInt32.toUInt16.toUInt32.toInt32)) 55 (fun _ q => XS.i2c X0.here hx rfl (hb hby dq3_54) rfl q) ?_
            exact own_retN (t := .char) X0 hx hrt (hb hby dq3_55) (by simp) hlk (by decide) (by decide) e0 (⟨_, rfl, own_pk 10 rfl (by decide) hr ⟨by decide, by decide⟩, N0, rfl⟩)
          ·
            refine own_d2 56 (fun _ q => XS.icmpYes X0.here hx rfl (pc0 := 44) (pc' := 56) rfl (hb hby dq3_44) rfl (feq c55).2 (by decide) (by decide) q) ?_
            refine own_tp (.int p2) 57 (fun _ q => XS.iloadN X0.here hx rfl (hb hby dq3_56) rfl q) ?_
            refine own_tp (.int (5 : Int32)) 58 (fun _ q => XS.iconst X0.here hx rfl (hb hby dq3_57) q) ?_
            by_cases c56 : p2 = (5 : Int32)
            ·
              refine own_d2 61 (fun _ q => XS.icmpNo X0.here hx rfl (hb hby dq3_58) rfl (teq c56).2 q) ?_
              refine own_tp (.int (45 : Int32)) 63 (fun _ q => XS.bipush X0.here hx rfl (hb hby dq3_61) q) ?_
              exact own_retN (t := .char) X0 hx hrt (hb hby dq3_63) (by simp) hlk (by decide) (by decide) e0 (⟨_, rfl, ⟨by decide, by decide⟩, N0, rfl⟩)
            ·
              refine own_d2 64 (fun _ q => XS.icmpYes X0.here hx rfl (pc0 := 58) (pc' := 64) rfl (hb hby dq3_58) rfl (feq c56).2 (by decide) (by decide) q) ?_
              refine own_tp (.int p1) 65 (fun _ q => XS.iloadN X0.here hx rfl (hb hby dq3_64) rfl q) ?_
              refine own_t1 (.int (p1.toUInt32.toUInt16.toUInt32.toInt32)) 66 (fun _ q => XS.i2c X0.here hx rfl (hb hby dq3_65) rfl q) ?_
              exact own_retN (t := .char) X0 hx hrt (hb hby dq3_66) (by simp) hlk (by decide) (by decide) e0 (⟨_, rfl, own_pr hr, N0, rfl⟩)

def own_at (i : Nat) (c0 c1 c2 c3 c4 c5 : Int32) : Int32 := if i = 0 then c0 else if i = 1 then c1 else if i = 2 then c2 else if i = 3 then c3 else if i = 4 then c4 else if i = 5 then c5 else 64

def own_sl (kk : Int32) (i : Nat) (j0 j1 c0 c1 c2 c3 c4 c5 : Int32) : Int32 := if kk = 0 then own_at i c0 c1 c2 c3 c4 c5 else if kk = 1 then (if i = 0 then j0 else own_at (i - 1) c0 c1 c2 c3 c4 c5) else (if i = 0 then j0 else if i = 1 then j1 else own_at (i - 2) c0 c1 c2 c3 c4 c5)

def own_he (kk : Int32) (cs : List Int32) : Int32 := if kk = 0 then own_run cs 8 0 (-1) 0 0 1 else if kk = 1 then own_run cs 7 1 (-1) 0 1 1 else own_run cs 6 2 (-1) 0 2 1
/-- a sign's class: 0 a dot, 1 a letter, 2 a digit or '-', 3 any other -/
def own_cl (c : Int32) : Fin 4 := if c = 46 then 0 else if own_let c = 0 then (if own_ld c = 0 then (if c = 45 then 2 else 3) else 2) else 1
def own_clet (k : Fin 4) : Int32 := if k = 1 then 1 else 0
def own_cA (k : Fin 4) : Int32 := if k = 3 then 0 else 1
def own_cd (k : Fin 4) : Int32 := if k = 0 then 1 else 0
theorem own_let01 (c : Int32) : own_let c = 0 ∨ own_let c = 1 := by
  unfold own_let
  repeat' split
  all_goals simp
theorem own_clet_s (c : Int32) : own_let c = own_clet (own_cl c) := by
  have q := own_let01 c
  unfold own_cl
  by_cases h : c = 46
  · subst h; decide
  · rw [if_neg h]
    rcases q with q | q
    · rw [if_pos q, q]
      repeat' split
      all_goals rfl
    · rw [q]; rfl
theorem own_cd_s (c : Int32) : own_dt c = own_cd (own_cl c) := by
  unfold own_cl own_dt
  by_cases h : c = 46
  · simp [h, own_cd]
  · rw [if_neg h, if_neg h]
    repeat' split
    all_goals rfl
theorem own_cA_s (c : Int32) : own_isA c = own_cA (own_cl c) := by
  unfold own_cl
  by_cases h : c = 46
  · subst h; decide
  · rw [if_neg h]
    unfold own_isA own_ld
    by_cases h1 : own_let c = 0
    · simp only [h1, if_true, h, if_false]
      by_cases h2 : c < 48
      · simp only [h2, if_true]
        split <;> rfl
      · by_cases h3 : 57 < c
        · simp only [h2, h3, if_true, if_false]
          split <;> rfl
        · simp only [h2, h3, if_false]
          rfl
    · simp only [h1, if_false]
      rfl
def own_runD : List (Fin 4) → Nat → Int32 → Int32 → Int32 → Int32 → Int32
  | [], _, en, _, _, _ => en
  | k :: ks, i, en, dots, ls, lo =>
    if k = 0 then (if Int32.ofNat i = ls then en else own_runD ks (i + 1) en (dots + 1) (Int32.ofNat (i + 1)) 1)
    else if k = 3 then en
    else own_runD ks (i + 1) (own_en i en dots ls (lo &&& own_clet k)) dots ls (lo &&& own_clet k)
theorem own_run_D (cs : List Int32) : ∀ (f i : Nat) (en dots ls lo : Int32), i + f = cs.length → own_run cs f i en dots ls lo = own_runD ((cs.drop i).map own_cl) i en dots ls lo := by
  intro f
  induction f with
  | zero =>
    intro i en dots ls lo h
    rw [List.drop_of_length_le (by omega)]
    rfl
  | succ f ih =>
    intro i en dots ls lo h
    have hi : i < cs.length := by omega
    have e : cs.getD i 0 = cs[i] := by simp [List.getD_eq_getElem?_getD, hi]
    rw [List.drop_eq_getElem_cons hi]
    unfold own_run
    rw [e]
    simp only [List.map_cons, own_runD]
    rw [← own_clet_s]
    generalize cs[i] = c
    rw [ih (i + 1) _ _ _ _ (by omega), ih (i + 1) _ _ _ _ (by omega)]
    unfold own_cl
    by_cases h0 : c = 46
    · simp [h0]
    · by_cases h1 : own_let c = 0
      · have e2 : ∀ x : Int32, x &&& own_let c = x &&& 0 := fun x => by rw [h1]
        by_cases h2 : own_ld c = 0
        · by_cases h3 : c = 45
          · subst h3
            simp [h1, h2]
          · simp [h0, h1, h2, h3]
        · simp [h0, h1, h2]
      · have h2 : ¬ own_ld c = 0 := by unfold own_ld; simp [h1]
        simp [h0, h1, h2]
def own_finC (k : Int32) (c0 c1 c2 c3 c4 c5 : Fin 4) : Int32 :=
  own_ex k (own_g5 (own_g5 (own_g4 (own_cA c0) (own_cA c1) (own_cA c2) (own_cA c3) (own_cd c0) (own_cd c1) (own_cd c2) (own_cd c3)) (own_cA c4) (own_cd c3) (own_cd c4)) (own_cA c5) (own_cd c4) (own_cd c5))
    (own_t6 (own_clet c4) (own_clet c5) (own_cd c3) (own_clet c3) (own_cd c2) (own_clet c2) (own_cd c1))
    (own_g5 (own_g4 (own_cA c0) (own_cA c1) (own_cA c2) (own_cA c3) (own_cd c0) (own_cd c1) (own_cd c2) (own_cd c3)) (own_cA c4) (own_cd c3) (own_cd c4))
    (own_t5 (own_clet c3) (own_clet c4) (own_cd c2) (own_clet c2) (own_cd c1))
    (own_g4 (own_cA c0) (own_cA c1) (own_cA c2) (own_cA c3) (own_cd c0) (own_cd c1) (own_cd c2) (own_cd c3)) (own_t4 (own_cd c1) (own_clet c2) (own_clet c3))
theorem own_fin_C (k c0 c1 c2 c3 c4 c5 : Int32) : own_fin k c0 c1 c2 c3 c4 c5 = own_finC k (own_cl c0) (own_cl c1) (own_cl c2) (own_cl c3) (own_cl c4) (own_cl c5) := by
  unfold own_fin own_finC
  simp only [own_clet_s, own_cA_s, own_cd_s]
theorem own_dec0 : ∀ k0 k1 k2 k3 k4 k5 : Fin 4, own_runD [k0, k1, k2, k3, k4, k5, 3, 3] 0 (-1) 0 0 1 = own_finC 0 k0 k1 k2 k3 k4 k5 := by decide +kernel
theorem own_dec1 : ∀ k0 k1 k2 k3 k4 k5 : Fin 4, own_runD [k0, k1, k2, k3, k4, k5, 3] 1 (-1) 0 1 1 = own_finC 1 k0 k1 k2 k3 k4 k5 := by decide +kernel
theorem own_dec2 : ∀ k0 k1 k2 k3 k4 k5 : Fin 4, own_runD [k0, k1, k2, k3, k4, k5] 2 (-1) 0 2 1 = own_finC 2 k0 k1 k2 k3 k4 k5 := by decide +kernel
theorem own_he0 (cs : List Int32) : own_he 0 cs = own_run cs 8 0 (-1) 0 0 1 := by
  unfold own_he
  exact if_pos rfl
theorem own_he1 (cs : List Int32) : own_he 1 cs = own_run cs 7 1 (-1) 0 1 1 := by
  unfold own_he
  exact (if_neg (by decide)).trans (if_pos rfl)
theorem own_he2 (cs : List Int32) : own_he 2 cs = own_run cs 6 2 (-1) 0 2 1 := by
  unfold own_he
  exact (if_neg (by decide)).trans (if_neg (by decide))
theorem own_sl0_0 (j0 j1 c0 c1 c2 c3 c4 c5 : Int32) : own_sl 0 0 j0 j1 c0 c1 c2 c3 c4 c5 = c0 := by first | rfl | (simp [own_sl, own_at]; done)
theorem own_sl0_1 (j0 j1 c0 c1 c2 c3 c4 c5 : Int32) : own_sl 0 1 j0 j1 c0 c1 c2 c3 c4 c5 = c1 := by first | rfl | (simp [own_sl, own_at]; done)
theorem own_sl0_2 (j0 j1 c0 c1 c2 c3 c4 c5 : Int32) : own_sl 0 2 j0 j1 c0 c1 c2 c3 c4 c5 = c2 := by first | rfl | (simp [own_sl, own_at]; done)
theorem own_sl0_3 (j0 j1 c0 c1 c2 c3 c4 c5 : Int32) : own_sl 0 3 j0 j1 c0 c1 c2 c3 c4 c5 = c3 := by first | rfl | (simp [own_sl, own_at]; done)
theorem own_sl0_4 (j0 j1 c0 c1 c2 c3 c4 c5 : Int32) : own_sl 0 4 j0 j1 c0 c1 c2 c3 c4 c5 = c4 := by first | rfl | (simp [own_sl, own_at]; done)
theorem own_sl0_5 (j0 j1 c0 c1 c2 c3 c4 c5 : Int32) : own_sl 0 5 j0 j1 c0 c1 c2 c3 c4 c5 = c5 := by first | rfl | (simp [own_sl, own_at]; done)
theorem own_sl0_6 (j0 j1 c0 c1 c2 c3 c4 c5 : Int32) : own_sl 0 6 j0 j1 c0 c1 c2 c3 c4 c5 = 64 := by first | rfl | (simp [own_sl, own_at]; done)
theorem own_sl0_7 (j0 j1 c0 c1 c2 c3 c4 c5 : Int32) : own_sl 0 7 j0 j1 c0 c1 c2 c3 c4 c5 = 64 := by first | rfl | (simp [own_sl, own_at]; done)
theorem own_sl1_0 (j0 j1 c0 c1 c2 c3 c4 c5 : Int32) : own_sl 1 0 j0 j1 c0 c1 c2 c3 c4 c5 = j0 := by first | rfl | (simp [own_sl, own_at]; done)
theorem own_sl1_1 (j0 j1 c0 c1 c2 c3 c4 c5 : Int32) : own_sl 1 1 j0 j1 c0 c1 c2 c3 c4 c5 = c0 := by first | rfl | (simp [own_sl, own_at]; done)
theorem own_sl1_2 (j0 j1 c0 c1 c2 c3 c4 c5 : Int32) : own_sl 1 2 j0 j1 c0 c1 c2 c3 c4 c5 = c1 := by first | rfl | (simp [own_sl, own_at]; done)
theorem own_sl1_3 (j0 j1 c0 c1 c2 c3 c4 c5 : Int32) : own_sl 1 3 j0 j1 c0 c1 c2 c3 c4 c5 = c2 := by first | rfl | (simp [own_sl, own_at]; done)
theorem own_sl1_4 (j0 j1 c0 c1 c2 c3 c4 c5 : Int32) : own_sl 1 4 j0 j1 c0 c1 c2 c3 c4 c5 = c3 := by first | rfl | (simp [own_sl, own_at]; done)
theorem own_sl1_5 (j0 j1 c0 c1 c2 c3 c4 c5 : Int32) : own_sl 1 5 j0 j1 c0 c1 c2 c3 c4 c5 = c4 := by first | rfl | (simp [own_sl, own_at]; done)
theorem own_sl1_6 (j0 j1 c0 c1 c2 c3 c4 c5 : Int32) : own_sl 1 6 j0 j1 c0 c1 c2 c3 c4 c5 = c5 := by first | rfl | (simp [own_sl, own_at]; done)
theorem own_sl1_7 (j0 j1 c0 c1 c2 c3 c4 c5 : Int32) : own_sl 1 7 j0 j1 c0 c1 c2 c3 c4 c5 = 64 := by first | rfl | (simp [own_sl, own_at]; done)
theorem own_sl2_0 (j0 j1 c0 c1 c2 c3 c4 c5 : Int32) : own_sl 2 0 j0 j1 c0 c1 c2 c3 c4 c5 = j0 := by first | rfl | (simp [own_sl, own_at]; done)
theorem own_sl2_1 (j0 j1 c0 c1 c2 c3 c4 c5 : Int32) : own_sl 2 1 j0 j1 c0 c1 c2 c3 c4 c5 = j1 := by first | rfl | (simp [own_sl, own_at]; done)
theorem own_sl2_2 (j0 j1 c0 c1 c2 c3 c4 c5 : Int32) : own_sl 2 2 j0 j1 c0 c1 c2 c3 c4 c5 = c0 := by first | rfl | (simp [own_sl, own_at]; done)
theorem own_sl2_3 (j0 j1 c0 c1 c2 c3 c4 c5 : Int32) : own_sl 2 3 j0 j1 c0 c1 c2 c3 c4 c5 = c1 := by first | rfl | (simp [own_sl, own_at]; done)
theorem own_sl2_4 (j0 j1 c0 c1 c2 c3 c4 c5 : Int32) : own_sl 2 4 j0 j1 c0 c1 c2 c3 c4 c5 = c2 := by first | rfl | (simp [own_sl, own_at]; done)
theorem own_sl2_5 (j0 j1 c0 c1 c2 c3 c4 c5 : Int32) : own_sl 2 5 j0 j1 c0 c1 c2 c3 c4 c5 = c3 := by first | rfl | (simp [own_sl, own_at]; done)
theorem own_sl2_6 (j0 j1 c0 c1 c2 c3 c4 c5 : Int32) : own_sl 2 6 j0 j1 c0 c1 c2 c3 c4 c5 = c4 := by first | rfl | (simp [own_sl, own_at]; done)
theorem own_sl2_7 (j0 j1 c0 c1 c2 c3 c4 c5 : Int32) : own_sl 2 7 j0 j1 c0 c1 c2 c3 c4 c5 = c5 := by first | rfl | (simp [own_sl, own_at]; done)
theorem own_e0 (c0 c1 c2 c3 c4 c5 x : Int32) (hx : own_cl x = 3) : own_run [c0, c1, c2, c3, c4, c5, x, x] 8 0 (-1) 0 0 1 = own_finC 0 (own_cl c0) (own_cl c1) (own_cl c2) (own_cl c3) (own_cl c4) (own_cl c5) := by
  rw [own_run_D [c0, c1, c2, c3, c4, c5, x, x] 8 0 (-1) 0 0 1 rfl]
  have e : (([c0, c1, c2, c3, c4, c5, x, x] : List Int32).drop 0).map own_cl = [own_cl c0, own_cl c1, own_cl c2, own_cl c3, own_cl c4, own_cl c5, own_cl x, own_cl x] := rfl
  rw [e, hx]
  exact own_dec0 _ _ _ _ _ _
theorem own_e1 (j0 c0 c1 c2 c3 c4 c5 x : Int32) (hx : own_cl x = 3) : own_run [j0, c0, c1, c2, c3, c4, c5, x] 7 1 (-1) 0 1 1 = own_finC 1 (own_cl c0) (own_cl c1) (own_cl c2) (own_cl c3) (own_cl c4) (own_cl c5) := by
  rw [own_run_D [j0, c0, c1, c2, c3, c4, c5, x] 7 1 (-1) 0 1 1 rfl]
  have e : (([j0, c0, c1, c2, c3, c4, c5, x] : List Int32).drop 1).map own_cl = [own_cl c0, own_cl c1, own_cl c2, own_cl c3, own_cl c4, own_cl c5, own_cl x] := rfl
  rw [e, hx]
  exact own_dec1 _ _ _ _ _ _
theorem own_e2 (j0 j1 c0 c1 c2 c3 c4 c5 : Int32) : own_run [j0, j1, c0, c1, c2, c3, c4, c5] 6 2 (-1) 0 2 1 = own_finC 2 (own_cl c0) (own_cl c1) (own_cl c2) (own_cl c3) (own_cl c4) (own_cl c5) := by
  rw [own_run_D [j0, j1, c0, c1, c2, c3, c4, c5] 6 2 (-1) 0 2 1 rfl]
  have e : (([j0, j1, c0, c1, c2, c3, c4, c5] : List Int32).drop 2).map own_cl = [own_cl c0, own_cl c1, own_cl c2, own_cl c3, own_cl c4, own_cl c5] := rfl
  rw [e]
  exact own_dec2 _ _ _ _ _ _
theorem own_main (kk j0 j1 c0 c1 c2 c3 c4 c5 z0 z1 z2 z3 z4 z5 z6 z7 : Int32) (hk : kk = (0 : Int32) ∨ kk = (1 : Int32) ∨ kk = (2 : Int32)) (e0 : z0 = own_sl kk 0 j0 j1 c0 c1 c2 c3 c4 c5) (e1 : z1 = own_sl kk 1 j0 j1 c0 c1 c2 c3 c4 c5) (e2 : z2 = own_sl kk 2 j0 j1 c0 c1 c2 c3 c4 c5) (e3 : z3 = own_sl kk 3 j0 j1 c0 c1 c2 c3 c4 c5) (e4 : z4 = own_sl kk 4 j0 j1 c0 c1 c2 c3 c4 c5) (e5 : z5 = own_sl kk 5 j0 j1 c0 c1 c2 c3 c4 c5) (e6 : z6 = own_sl kk 6 j0 j1 c0 c1 c2 c3 c4 c5) (e7 : z7 = own_sl kk 7 j0 j1 c0 c1 c2 c3 c4 c5) :
    own_he kk [z0, z1, z2, z3, z4, z5, z6, z7] = own_fin kk c0 c1 c2 c3 c4 c5 := by
  rw [own_fin_C]
  have q64 : own_cl 64 = 3 := by decide
  rcases hk with rfl | rfl | rfl
  · rw [own_sl0_0] at e0
    rw [own_sl0_1] at e1
    rw [own_sl0_2] at e2
    rw [own_sl0_3] at e3
    rw [own_sl0_4] at e4
    rw [own_sl0_5] at e5
    rw [own_sl0_6] at e6
    rw [own_sl0_7] at e7
    rw [own_he0, e0, e1, e2, e3, e4, e5, e6, e7]
    exact own_e0 _ _ _ _ _ _ _ q64
  · rw [own_sl1_0] at e0
    rw [own_sl1_1] at e1
    rw [own_sl1_2] at e2
    rw [own_sl1_3] at e3
    rw [own_sl1_4] at e4
    rw [own_sl1_5] at e5
    rw [own_sl1_6] at e6
    rw [own_sl1_7] at e7
    rw [own_he1, e0, e1, e2, e3, e4, e5, e6, e7]
    exact own_e1 _ _ _ _ _ _ _ _ q64
  · rw [own_sl2_0] at e0
    rw [own_sl2_1] at e1
    rw [own_sl2_2] at e2
    rw [own_sl2_3] at e3
    rw [own_sl2_4] at e4
    rw [own_sl2_5] at e5
    rw [own_sl2_6] at e6
    rw [own_sl2_7] at e7
    rw [own_he2, e0, e1, e2, e3, e4, e5, e6, e7]
    exact own_e2 _ _ _ _ _ _ _ _

def Q6 (z0 : Int32) (h0 : Heap) (n0 : Nat) (v : Option Value) (h : Heap) (L : List Loc) : Prop := ∃ z : Int32, v = some (.int z) ∧ z = z0 ∧ (0 ≤ z.toInt ∧ z.toInt ≤ 255) ∧ Fr n0 L ∧ h = h0

set_option maxRecDepth 65536 in
set_option maxHeartbeats 40000000 in
theorem rm30 (l : Launch) (Z : State) (a0 : Array Value) (hw : ∀ d ∈ tables_1, d.before a0 Z = true) (ws : List Jvm.Cond) (b1 : Addr) (k1 : ClassId) (j0 j1 kk c0 c1 c2 c3 c4 c5 : Int32) (h0 : Heap) (n0 : Nat) (hk : (kk = (0 : Int32) ∨ kk = (1 : Int32) ∨ kk = (2 : Int32))) (V1 : Arv Z h0 b1 k1 .char (6 : Int32) [(.int c0), (.int c1), (.int c2), (.int c3), (.int c4), (.int c5)] (.int (0 : Int32))) (bj0 : 0 ≤ j0.toInt ∧ j0.toInt ≤ 255) (bj1 : 0 ≤ j1.toInt ∧ j1.toInt ≤ 255) (bc0 : 0 ≤ c0.toInt ∧ c0.toInt ≤ 255) (bc1 : 0 ≤ c1.toInt ∧ c1.toInt ≤ 255) (bc2 : 0 ≤ c2.toInt ∧ c2.toInt ≤ 255) (bc3 : 0 ≤ c3.toInt ∧ c3.toInt ≤ 255) (bc4 : 0 ≤ c4.toInt ∧ c4.toInt ≤ 255) (bc5 : 0 ≤ c5.toInt ∧ c5.toInt ≤ 255) :
    own_Met l (⟨"com/example/cited_experts/citedexperts/EmailAddressHostEndPinLaw", "slot", "([CCCII)C"⟩ : MethodName) method_4_code 6 (some .char) ws own_R_0_0_0_0 Z #[(.ref b1), (.int j0), (.int j1), (.int kk), (.int (0 : Int32))] h0 (Q6 (own_sl kk 0 j0 j1 c0 c1 c2 c3 c4 c5) h0 n0) := by
  refine own_enter #[.val (.ref b1), .val (.int j0), .val (.int j1), .val (.int kk), .val (.int (0 : Int32)), .unset] (plainFor_of_name pn_com_example_cited_experts_citedexperts_EmailAddressHostEndPinLaw) (fun m => ef_RIIII_6 m b1 j0 j1 kk (0 : Int32)) ?_
  intro p e s m below meth c s₁ hx hby hml hown hnm hZ hrt hlk X0 e0
  have N0 := Fr.nil n0
  rcases hk with rfl | rfl | rfl
  ·
    refine own_tp (.int (0 : Int32)) 2 (fun _ q => XS.iload X0.here hx rfl (hb hby dq4_0) rfl q) ?_
    refine own_tp (.int (0 : Int32)) 3 (fun _ q => XS.iloadN X0.here hx rfl (hb hby dq4_2) rfl q) ?_
    refine own_d2 15 (fun _ q => XS.icmpYes X0.here hx rfl (pc0 := 3) (pc' := 15) rfl (hb hby dq4_3) rfl (flt (by decide : ¬ ((0 : Int32) < (0 : Int32)))).2.1 (by decide) (by decide) q) ?_
    refine own_tp (.int (0 : Int32)) 17 (fun _ q => XS.iload X0.here hx rfl (hb hby dq4_15) rfl q) ?_
    refine own_tp (.int (0 : Int32)) 18 (fun _ q => XS.iloadN X0.here hx rfl (hb hby dq4_17) rfl q) ?_
    refine own_d1 19 (fun _ q => XS.isub X0.here hx rfl (hb hby dq4_18) rfl q) ?_
    refine own_ls #[.val (.ref b1), .val (.int j0), .val (.int j1), .val (.int (0 : Int32)), .val (.int (0 : Int32)), .val (.int (0 : Int32))] 21 (fun _ q => XS.istore X0.here hx rfl (hb hby dq4_19) rfl (l' := #[.val (.ref b1), .val (.int j0), .val (.int j1), .val (.int (0 : Int32)), .val (.int (0 : Int32)), .val (.int (0 : Int32))]) rfl q) ?_
    refine own_tp (.int (0 : Int32)) 23 (fun _ q => XS.iload X0.here hx rfl (hb hby dq4_21) rfl q) ?_
    refine own_tp (.int (6 : Int32)) 25 (fun _ q => XS.bipush X0.here hx rfl (hb hby dq4_23) q) ?_
    refine own_d2 28 (fun _ q => XS.icmpNo X0.here hx rfl (hb hby dq4_25) rfl (tlt (by decide : (0 : Int32) < (6 : Int32))).2.1 q) ?_
    refine own_tp (.ref b1) 29 (fun _ q => XS.aloadN X0.here hx rfl (hb hby dq4_28) rfl rfl q) ?_
    refine own_tp (.int (0 : Int32)) 31 (fun _ q => XS.iload X0.here hx rfl (hb hby dq4_29) rfl q) ?_
    obtain ⟨cl51, Ar51, q51, S51, Nn51, H51, G51⟩ := (id V1)
    have hin51 : ¬ ((0 : Int32) < 0 ∨ cl51.slots.size ≤ ((0 : Int32)).toNatClampNeg) := inb_of S51 ⟨by decide, by decide⟩
    have hat51 : cl51.slots[((0 : Int32)).toNatClampNeg]? = some (.int c0) := H51.at hin51 rfl
    refine own_t2 (.int c0) 32 (fun _ q => X0.caload hx (j := (0 : Int32)) (v := (.int c0)) (by rw [e0]; exact Ar51.1) (State.isArrayOf_alike hZ.alike Ar51.2.1) Ar51.2.2 hin51 hat51 (g := (mkF m 31 #[.val (.ref b1), .val (.int j0), .val (.int j1), .val (.int (0 : Int32)), .val (.int (0 : Int32)), .val (.int (0 : Int32))] [(.int (0 : Int32)), (.ref b1)])) rfl rfl (hb hby dq4_31) _ q) ?_
    exact own_retN (t := .char) X0 hx hrt (hb hby dq4_32) (by simp) hlk (by decide) (by decide) e0 (⟨c0, by rw [own_narc (own_up bc0)], (own_sl0_0 _ _ _ _ _ _ _ _).symm, bc0, N0, rfl⟩)
  ·
    refine own_tp (.int (0 : Int32)) 2 (fun _ q => XS.iload X0.here hx rfl (hb hby dq4_0) rfl q) ?_
    refine own_tp (.int (1 : Int32)) 3 (fun _ q => XS.iloadN X0.here hx rfl (hb hby dq4_2) rfl q) ?_
    refine own_d2 6 (fun _ q => XS.icmpNo X0.here hx rfl (hb hby dq4_3) rfl (tlt (by decide : (0 : Int32) < (1 : Int32))).2.1 q) ?_
    refine own_tp (.int (0 : Int32)) 8 (fun _ q => XS.iload X0.here hx rfl (hb hby dq4_6) rfl q) ?_
    refine own_d1 11 (fun _ q => XS.ifNo X0.here hx rfl (hb hby dq4_8) rfl ((if0 _ _).trans (teq (by decide : (0 : Int32) = (0 : Int32))).2) q) ?_
    refine own_tp (.int j0) 12 (fun _ q => XS.iloadN X0.here hx rfl (hb hby dq4_11) rfl q) ?_
    exact own_retN (t := .char) X0 hx hrt (hb hby dq4_12) (by simp) hlk (by decide) (by decide) e0 (⟨j0, by rw [own_narc (own_up bj0)], (own_sl1_0 _ _ _ _ _ _ _ _).symm, bj0, N0, rfl⟩)
  ·
    refine own_tp (.int (0 : Int32)) 2 (fun _ q => XS.iload X0.here hx rfl (hb hby dq4_0) rfl q) ?_
    refine own_tp (.int (2 : Int32)) 3 (fun _ q => XS.iloadN X0.here hx rfl (hb hby dq4_2) rfl q) ?_
    refine own_d2 6 (fun _ q => XS.icmpNo X0.here hx rfl (hb hby dq4_3) rfl (tlt (by decide : (0 : Int32) < (2 : Int32))).2.1 q) ?_
    refine own_tp (.int (0 : Int32)) 8 (fun _ q => XS.iload X0.here hx rfl (hb hby dq4_6) rfl q) ?_
    refine own_d1 11 (fun _ q => XS.ifNo X0.here hx rfl (hb hby dq4_8) rfl ((if0 _ _).trans (teq (by decide : (0 : Int32) = (0 : Int32))).2) q) ?_
    refine own_tp (.int j0) 12 (fun _ q => XS.iloadN X0.here hx rfl (hb hby dq4_11) rfl q) ?_
    exact own_retN (t := .char) X0 hx hrt (hb hby dq4_12) (by simp) hlk (by decide) (by decide) e0 (⟨j0, by rw [own_narc (own_up bj0)], (own_sl2_0 _ _ _ _ _ _ _ _).symm, bj0, N0, rfl⟩)

set_option maxRecDepth 65536 in
set_option maxHeartbeats 40000000 in
theorem rm31 (l : Launch) (Z : State) (a0 : Array Value) (hw : ∀ d ∈ tables_1, d.before a0 Z = true) (ws : List Jvm.Cond) (b1 : Addr) (k1 : ClassId) (j0 j1 kk c0 c1 c2 c3 c4 c5 : Int32) (h0 : Heap) (n0 : Nat) (hk : (kk = (0 : Int32) ∨ kk = (1 : Int32) ∨ kk = (2 : Int32))) (V1 : Arv Z h0 b1 k1 .char (6 : Int32) [(.int c0), (.int c1), (.int c2), (.int c3), (.int c4), (.int c5)] (.int (0 : Int32))) (bj0 : 0 ≤ j0.toInt ∧ j0.toInt ≤ 255) (bj1 : 0 ≤ j1.toInt ∧ j1.toInt ≤ 255) (bc0 : 0 ≤ c0.toInt ∧ c0.toInt ≤ 255) (bc1 : 0 ≤ c1.toInt ∧ c1.toInt ≤ 255) (bc2 : 0 ≤ c2.toInt ∧ c2.toInt ≤ 255) (bc3 : 0 ≤ c3.toInt ∧ c3.toInt ≤ 255) (bc4 : 0 ≤ c4.toInt ∧ c4.toInt ≤ 255) (bc5 : 0 ≤ c5.toInt ∧ c5.toInt ≤ 255) :
    own_Met l (⟨"com/example/cited_experts/citedexperts/EmailAddressHostEndPinLaw", "slot", "([CCCII)C"⟩ : MethodName) method_4_code 6 (some .char) ws own_R_0_0_0_0 Z #[(.ref b1), (.int j0), (.int j1), (.int kk), (.int (1 : Int32))] h0 (Q6 (own_sl kk 1 j0 j1 c0 c1 c2 c3 c4 c5) h0 n0) := by
  refine own_enter #[.val (.ref b1), .val (.int j0), .val (.int j1), .val (.int kk), .val (.int (1 : Int32)), .unset] (plainFor_of_name pn_com_example_cited_experts_citedexperts_EmailAddressHostEndPinLaw) (fun m => ef_RIIII_6 m b1 j0 j1 kk (1 : Int32)) ?_
  intro p e s m below meth c s₁ hx hby hml hown hnm hZ hrt hlk X0 e0
  have N0 := Fr.nil n0
  rcases hk with rfl | rfl | rfl
  ·
    refine own_tp (.int (1 : Int32)) 2 (fun _ q => XS.iload X0.here hx rfl (hb hby dq4_0) rfl q) ?_
    refine own_tp (.int (0 : Int32)) 3 (fun _ q => XS.iloadN X0.here hx rfl (hb hby dq4_2) rfl q) ?_
    refine own_d2 15 (fun _ q => XS.icmpYes X0.here hx rfl (pc0 := 3) (pc' := 15) rfl (hb hby dq4_3) rfl (flt (by decide : ¬ ((1 : Int32) < (0 : Int32)))).2.1 (by decide) (by decide) q) ?_
    refine own_tp (.int (1 : Int32)) 17 (fun _ q => XS.iload X0.here hx rfl (hb hby dq4_15) rfl q) ?_
    refine own_tp (.int (0 : Int32)) 18 (fun _ q => XS.iloadN X0.here hx rfl (hb hby dq4_17) rfl q) ?_
    refine own_d1 19 (fun _ q => XS.isub X0.here hx rfl (hb hby dq4_18) rfl q) ?_
    refine own_ls #[.val (.ref b1), .val (.int j0), .val (.int j1), .val (.int (0 : Int32)), .val (.int (1 : Int32)), .val (.int (1 : Int32))] 21 (fun _ q => XS.istore X0.here hx rfl (hb hby dq4_19) rfl (l' := #[.val (.ref b1), .val (.int j0), .val (.int j1), .val (.int (0 : Int32)), .val (.int (1 : Int32)), .val (.int (1 : Int32))]) rfl q) ?_
    refine own_tp (.int (1 : Int32)) 23 (fun _ q => XS.iload X0.here hx rfl (hb hby dq4_21) rfl q) ?_
    refine own_tp (.int (6 : Int32)) 25 (fun _ q => XS.bipush X0.here hx rfl (hb hby dq4_23) q) ?_
    refine own_d2 28 (fun _ q => XS.icmpNo X0.here hx rfl (hb hby dq4_25) rfl (tlt (by decide : (1 : Int32) < (6 : Int32))).2.1 q) ?_
    refine own_tp (.ref b1) 29 (fun _ q => XS.aloadN X0.here hx rfl (hb hby dq4_28) rfl rfl q) ?_
    refine own_tp (.int (1 : Int32)) 31 (fun _ q => XS.iload X0.here hx rfl (hb hby dq4_29) rfl q) ?_
    obtain ⟨cl51, Ar51, q51, S51, Nn51, H51, G51⟩ := (id V1)
    have hin51 : ¬ ((1 : Int32) < 0 ∨ cl51.slots.size ≤ ((1 : Int32)).toNatClampNeg) := inb_of S51 ⟨by decide, by decide⟩
    have hat51 : cl51.slots[((1 : Int32)).toNatClampNeg]? = some (.int c1) := H51.at hin51 rfl
    refine own_t2 (.int c1) 32 (fun _ q => X0.caload hx (j := (1 : Int32)) (v := (.int c1)) (by rw [e0]; exact Ar51.1) (State.isArrayOf_alike hZ.alike Ar51.2.1) Ar51.2.2 hin51 hat51 (g := (mkF m 31 #[.val (.ref b1), .val (.int j0), .val (.int j1), .val (.int (0 : Int32)), .val (.int (1 : Int32)), .val (.int (1 : Int32))] [(.int (1 : Int32)), (.ref b1)])) rfl rfl (hb hby dq4_31) _ q) ?_
    exact own_retN (t := .char) X0 hx hrt (hb hby dq4_32) (by simp) hlk (by decide) (by decide) e0 (⟨c1, by rw [own_narc (own_up bc1)], (own_sl0_1 _ _ _ _ _ _ _ _).symm, bc1, N0, rfl⟩)
  ·
    refine own_tp (.int (1 : Int32)) 2 (fun _ q => XS.iload X0.here hx rfl (hb hby dq4_0) rfl q) ?_
    refine own_tp (.int (1 : Int32)) 3 (fun _ q => XS.iloadN X0.here hx rfl (hb hby dq4_2) rfl q) ?_
    refine own_d2 15 (fun _ q => XS.icmpYes X0.here hx rfl (pc0 := 3) (pc' := 15) rfl (hb hby dq4_3) rfl (flt (by decide : ¬ ((1 : Int32) < (1 : Int32)))).2.1 (by decide) (by decide) q) ?_
    refine own_tp (.int (1 : Int32)) 17 (fun _ q => XS.iload X0.here hx rfl (hb hby dq4_15) rfl q) ?_
    refine own_tp (.int (1 : Int32)) 18 (fun _ q => XS.iloadN X0.here hx rfl (hb hby dq4_17) rfl q) ?_
    refine own_t2 (.int (0 : Int32)) 19 (fun _ q => XS.isub X0.here hx rfl (hb hby dq4_18) rfl q) ?_
    refine own_ls #[.val (.ref b1), .val (.int j0), .val (.int j1), .val (.int (1 : Int32)), .val (.int (1 : Int32)), .val (.int (0 : Int32))] 21 (fun _ q => XS.istore X0.here hx rfl (hb hby dq4_19) rfl (l' := #[.val (.ref b1), .val (.int j0), .val (.int j1), .val (.int (1 : Int32)), .val (.int (1 : Int32)), .val (.int (0 : Int32))]) rfl q) ?_
    refine own_tp (.int (0 : Int32)) 23 (fun _ q => XS.iload X0.here hx rfl (hb hby dq4_21) rfl q) ?_
    refine own_tp (.int (6 : Int32)) 25 (fun _ q => XS.bipush X0.here hx rfl (hb hby dq4_23) q) ?_
    refine own_d2 28 (fun _ q => XS.icmpNo X0.here hx rfl (hb hby dq4_25) rfl (tlt (by decide : (0 : Int32) < (6 : Int32))).2.1 q) ?_
    refine own_tp (.ref b1) 29 (fun _ q => XS.aloadN X0.here hx rfl (hb hby dq4_28) rfl rfl q) ?_
    refine own_tp (.int (0 : Int32)) 31 (fun _ q => XS.iload X0.here hx rfl (hb hby dq4_29) rfl q) ?_
    obtain ⟨cl52, Ar52, q52, S52, Nn52, H52, G52⟩ := (id V1)
    have hin52 : ¬ ((0 : Int32) < 0 ∨ cl52.slots.size ≤ ((0 : Int32)).toNatClampNeg) := inb_of S52 ⟨by decide, by decide⟩
    have hat52 : cl52.slots[((0 : Int32)).toNatClampNeg]? = some (.int c0) := H52.at hin52 rfl
    refine own_t2 (.int c0) 32 (fun _ q => X0.caload hx (j := (0 : Int32)) (v := (.int c0)) (by rw [e0]; exact Ar52.1) (State.isArrayOf_alike hZ.alike Ar52.2.1) Ar52.2.2 hin52 hat52 (g := (mkF m 31 #[.val (.ref b1), .val (.int j0), .val (.int j1), .val (.int (1 : Int32)), .val (.int (1 : Int32)), .val (.int (0 : Int32))] [(.int (0 : Int32)), (.ref b1)])) rfl rfl (hb hby dq4_31) _ q) ?_
    exact own_retN (t := .char) X0 hx hrt (hb hby dq4_32) (by simp) hlk (by decide) (by decide) e0 (⟨c0, by rw [own_narc (own_up bc0)], (own_sl1_1 _ _ _ _ _ _ _ _).symm, bc0, N0, rfl⟩)
  ·
    refine own_tp (.int (1 : Int32)) 2 (fun _ q => XS.iload X0.here hx rfl (hb hby dq4_0) rfl q) ?_
    refine own_tp (.int (2 : Int32)) 3 (fun _ q => XS.iloadN X0.here hx rfl (hb hby dq4_2) rfl q) ?_
    refine own_d2 6 (fun _ q => XS.icmpNo X0.here hx rfl (hb hby dq4_3) rfl (tlt (by decide : (1 : Int32) < (2 : Int32))).2.1 q) ?_
    refine own_tp (.int (1 : Int32)) 8 (fun _ q => XS.iload X0.here hx rfl (hb hby dq4_6) rfl q) ?_
    refine own_d1 13 (fun _ q => XS.ifYes X0.here hx rfl (pc0 := 8) (pc' := 13) rfl (hb hby dq4_8) rfl ((if0 _ _).trans (feq (by decide : ¬ ((1 : Int32) = (0 : Int32)))).2) (by decide) (by decide) q) ?_
    refine own_tp (.int j1) 14 (fun _ q => XS.iloadN X0.here hx rfl (hb hby dq4_13) rfl q) ?_
    exact own_retN (t := .char) X0 hx hrt (hb hby dq4_14) (by simp) hlk (by decide) (by decide) e0 (⟨j1, by rw [own_narc (own_up bj1)], (own_sl2_1 _ _ _ _ _ _ _ _).symm, bj1, N0, rfl⟩)

set_option maxRecDepth 65536 in
set_option maxHeartbeats 40000000 in
theorem rm32 (l : Launch) (Z : State) (a0 : Array Value) (hw : ∀ d ∈ tables_1, d.before a0 Z = true) (ws : List Jvm.Cond) (b1 : Addr) (k1 : ClassId) (j0 j1 kk c0 c1 c2 c3 c4 c5 : Int32) (h0 : Heap) (n0 : Nat) (hk : (kk = (0 : Int32) ∨ kk = (1 : Int32) ∨ kk = (2 : Int32))) (V1 : Arv Z h0 b1 k1 .char (6 : Int32) [(.int c0), (.int c1), (.int c2), (.int c3), (.int c4), (.int c5)] (.int (0 : Int32))) (bj0 : 0 ≤ j0.toInt ∧ j0.toInt ≤ 255) (bj1 : 0 ≤ j1.toInt ∧ j1.toInt ≤ 255) (bc0 : 0 ≤ c0.toInt ∧ c0.toInt ≤ 255) (bc1 : 0 ≤ c1.toInt ∧ c1.toInt ≤ 255) (bc2 : 0 ≤ c2.toInt ∧ c2.toInt ≤ 255) (bc3 : 0 ≤ c3.toInt ∧ c3.toInt ≤ 255) (bc4 : 0 ≤ c4.toInt ∧ c4.toInt ≤ 255) (bc5 : 0 ≤ c5.toInt ∧ c5.toInt ≤ 255) :
    own_Met l (⟨"com/example/cited_experts/citedexperts/EmailAddressHostEndPinLaw", "slot", "([CCCII)C"⟩ : MethodName) method_4_code 6 (some .char) ws own_R_0_0_0_0 Z #[(.ref b1), (.int j0), (.int j1), (.int kk), (.int (2 : Int32))] h0 (Q6 (own_sl kk 2 j0 j1 c0 c1 c2 c3 c4 c5) h0 n0) := by
  refine own_enter #[.val (.ref b1), .val (.int j0), .val (.int j1), .val (.int kk), .val (.int (2 : Int32)), .unset] (plainFor_of_name pn_com_example_cited_experts_citedexperts_EmailAddressHostEndPinLaw) (fun m => ef_RIIII_6 m b1 j0 j1 kk (2 : Int32)) ?_
  intro p e s m below meth c s₁ hx hby hml hown hnm hZ hrt hlk X0 e0
  have N0 := Fr.nil n0
  rcases hk with rfl | rfl | rfl
  ·
    refine own_tp (.int (2 : Int32)) 2 (fun _ q => XS.iload X0.here hx rfl (hb hby dq4_0) rfl q) ?_
    refine own_tp (.int (0 : Int32)) 3 (fun _ q => XS.iloadN X0.here hx rfl (hb hby dq4_2) rfl q) ?_
    refine own_d2 15 (fun _ q => XS.icmpYes X0.here hx rfl (pc0 := 3) (pc' := 15) rfl (hb hby dq4_3) rfl (flt (by decide : ¬ ((2 : Int32) < (0 : Int32)))).2.1 (by decide) (by decide) q) ?_
    refine own_tp (.int (2 : Int32)) 17 (fun _ q => XS.iload X0.here hx rfl (hb hby dq4_15) rfl q) ?_
    refine own_tp (.int (0 : Int32)) 18 (fun _ q => XS.iloadN X0.here hx rfl (hb hby dq4_17) rfl q) ?_
    refine own_d1 19 (fun _ q => XS.isub X0.here hx rfl (hb hby dq4_18) rfl q) ?_
    refine own_ls #[.val (.ref b1), .val (.int j0), .val (.int j1), .val (.int (0 : Int32)), .val (.int (2 : Int32)), .val (.int (2 : Int32))] 21 (fun _ q => XS.istore X0.here hx rfl (hb hby dq4_19) rfl (l' := #[.val (.ref b1), .val (.int j0), .val (.int j1), .val (.int (0 : Int32)), .val (.int (2 : Int32)), .val (.int (2 : Int32))]) rfl q) ?_
    refine own_tp (.int (2 : Int32)) 23 (fun _ q => XS.iload X0.here hx rfl (hb hby dq4_21) rfl q) ?_
    refine own_tp (.int (6 : Int32)) 25 (fun _ q => XS.bipush X0.here hx rfl (hb hby dq4_23) q) ?_
    refine own_d2 28 (fun _ q => XS.icmpNo X0.here hx rfl (hb hby dq4_25) rfl (tlt (by decide : (2 : Int32) < (6 : Int32))).2.1 q) ?_
    refine own_tp (.ref b1) 29 (fun _ q => XS.aloadN X0.here hx rfl (hb hby dq4_28) rfl rfl q) ?_
    refine own_tp (.int (2 : Int32)) 31 (fun _ q => XS.iload X0.here hx rfl (hb hby dq4_29) rfl q) ?_
    obtain ⟨cl51, Ar51, q51, S51, Nn51, H51, G51⟩ := (id V1)
    have hin51 : ¬ ((2 : Int32) < 0 ∨ cl51.slots.size ≤ ((2 : Int32)).toNatClampNeg) := inb_of S51 ⟨by decide, by decide⟩
    have hat51 : cl51.slots[((2 : Int32)).toNatClampNeg]? = some (.int c2) := H51.at hin51 rfl
    refine own_t2 (.int c2) 32 (fun _ q => X0.caload hx (j := (2 : Int32)) (v := (.int c2)) (by rw [e0]; exact Ar51.1) (State.isArrayOf_alike hZ.alike Ar51.2.1) Ar51.2.2 hin51 hat51 (g := (mkF m 31 #[.val (.ref b1), .val (.int j0), .val (.int j1), .val (.int (0 : Int32)), .val (.int (2 : Int32)), .val (.int (2 : Int32))] [(.int (2 : Int32)), (.ref b1)])) rfl rfl (hb hby dq4_31) _ q) ?_
    exact own_retN (t := .char) X0 hx hrt (hb hby dq4_32) (by simp) hlk (by decide) (by decide) e0 (⟨c2, by rw [own_narc (own_up bc2)], (own_sl0_2 _ _ _ _ _ _ _ _).symm, bc2, N0, rfl⟩)
  ·
    refine own_tp (.int (2 : Int32)) 2 (fun _ q => XS.iload X0.here hx rfl (hb hby dq4_0) rfl q) ?_
    refine own_tp (.int (1 : Int32)) 3 (fun _ q => XS.iloadN X0.here hx rfl (hb hby dq4_2) rfl q) ?_
    refine own_d2 15 (fun _ q => XS.icmpYes X0.here hx rfl (pc0 := 3) (pc' := 15) rfl (hb hby dq4_3) rfl (flt (by decide : ¬ ((2 : Int32) < (1 : Int32)))).2.1 (by decide) (by decide) q) ?_
    refine own_tp (.int (2 : Int32)) 17 (fun _ q => XS.iload X0.here hx rfl (hb hby dq4_15) rfl q) ?_
    refine own_tp (.int (1 : Int32)) 18 (fun _ q => XS.iloadN X0.here hx rfl (hb hby dq4_17) rfl q) ?_
    refine own_t2 (.int (1 : Int32)) 19 (fun _ q => XS.isub X0.here hx rfl (hb hby dq4_18) rfl q) ?_
    refine own_ls #[.val (.ref b1), .val (.int j0), .val (.int j1), .val (.int (1 : Int32)), .val (.int (2 : Int32)), .val (.int (1 : Int32))] 21 (fun _ q => XS.istore X0.here hx rfl (hb hby dq4_19) rfl (l' := #[.val (.ref b1), .val (.int j0), .val (.int j1), .val (.int (1 : Int32)), .val (.int (2 : Int32)), .val (.int (1 : Int32))]) rfl q) ?_
    refine own_tp (.int (1 : Int32)) 23 (fun _ q => XS.iload X0.here hx rfl (hb hby dq4_21) rfl q) ?_
    refine own_tp (.int (6 : Int32)) 25 (fun _ q => XS.bipush X0.here hx rfl (hb hby dq4_23) q) ?_
    refine own_d2 28 (fun _ q => XS.icmpNo X0.here hx rfl (hb hby dq4_25) rfl (tlt (by decide : (1 : Int32) < (6 : Int32))).2.1 q) ?_
    refine own_tp (.ref b1) 29 (fun _ q => XS.aloadN X0.here hx rfl (hb hby dq4_28) rfl rfl q) ?_
    refine own_tp (.int (1 : Int32)) 31 (fun _ q => XS.iload X0.here hx rfl (hb hby dq4_29) rfl q) ?_
    obtain ⟨cl52, Ar52, q52, S52, Nn52, H52, G52⟩ := (id V1)
    have hin52 : ¬ ((1 : Int32) < 0 ∨ cl52.slots.size ≤ ((1 : Int32)).toNatClampNeg) := inb_of S52 ⟨by decide, by decide⟩
    have hat52 : cl52.slots[((1 : Int32)).toNatClampNeg]? = some (.int c1) := H52.at hin52 rfl
    refine own_t2 (.int c1) 32 (fun _ q => X0.caload hx (j := (1 : Int32)) (v := (.int c1)) (by rw [e0]; exact Ar52.1) (State.isArrayOf_alike hZ.alike Ar52.2.1) Ar52.2.2 hin52 hat52 (g := (mkF m 31 #[.val (.ref b1), .val (.int j0), .val (.int j1), .val (.int (1 : Int32)), .val (.int (2 : Int32)), .val (.int (1 : Int32))] [(.int (1 : Int32)), (.ref b1)])) rfl rfl (hb hby dq4_31) _ q) ?_
    exact own_retN (t := .char) X0 hx hrt (hb hby dq4_32) (by simp) hlk (by decide) (by decide) e0 (⟨c1, by rw [own_narc (own_up bc1)], (own_sl1_2 _ _ _ _ _ _ _ _).symm, bc1, N0, rfl⟩)
  ·
    refine own_tp (.int (2 : Int32)) 2 (fun _ q => XS.iload X0.here hx rfl (hb hby dq4_0) rfl q) ?_
    refine own_tp (.int (2 : Int32)) 3 (fun _ q => XS.iloadN X0.here hx rfl (hb hby dq4_2) rfl q) ?_
    refine own_d2 15 (fun _ q => XS.icmpYes X0.here hx rfl (pc0 := 3) (pc' := 15) rfl (hb hby dq4_3) rfl (flt (by decide : ¬ ((2 : Int32) < (2 : Int32)))).2.1 (by decide) (by decide) q) ?_
    refine own_tp (.int (2 : Int32)) 17 (fun _ q => XS.iload X0.here hx rfl (hb hby dq4_15) rfl q) ?_
    refine own_tp (.int (2 : Int32)) 18 (fun _ q => XS.iloadN X0.here hx rfl (hb hby dq4_17) rfl q) ?_
    refine own_t2 (.int (0 : Int32)) 19 (fun _ q => XS.isub X0.here hx rfl (hb hby dq4_18) rfl q) ?_
    refine own_ls #[.val (.ref b1), .val (.int j0), .val (.int j1), .val (.int (2 : Int32)), .val (.int (2 : Int32)), .val (.int (0 : Int32))] 21 (fun _ q => XS.istore X0.here hx rfl (hb hby dq4_19) rfl (l' := #[.val (.ref b1), .val (.int j0), .val (.int j1), .val (.int (2 : Int32)), .val (.int (2 : Int32)), .val (.int (0 : Int32))]) rfl q) ?_
    refine own_tp (.int (0 : Int32)) 23 (fun _ q => XS.iload X0.here hx rfl (hb hby dq4_21) rfl q) ?_
    refine own_tp (.int (6 : Int32)) 25 (fun _ q => XS.bipush X0.here hx rfl (hb hby dq4_23) q) ?_
    refine own_d2 28 (fun _ q => XS.icmpNo X0.here hx rfl (hb hby dq4_25) rfl (tlt (by decide : (0 : Int32) < (6 : Int32))).2.1 q) ?_
    refine own_tp (.ref b1) 29 (fun _ q => XS.aloadN X0.here hx rfl (hb hby dq4_28) rfl rfl q) ?_
    refine own_tp (.int (0 : Int32)) 31 (fun _ q => XS.iload X0.here hx rfl (hb hby dq4_29) rfl q) ?_
    obtain ⟨cl53, Ar53, q53, S53, Nn53, H53, G53⟩ := (id V1)
    have hin53 : ¬ ((0 : Int32) < 0 ∨ cl53.slots.size ≤ ((0 : Int32)).toNatClampNeg) := inb_of S53 ⟨by decide, by decide⟩
    have hat53 : cl53.slots[((0 : Int32)).toNatClampNeg]? = some (.int c0) := H53.at hin53 rfl
    refine own_t2 (.int c0) 32 (fun _ q => X0.caload hx (j := (0 : Int32)) (v := (.int c0)) (by rw [e0]; exact Ar53.1) (State.isArrayOf_alike hZ.alike Ar53.2.1) Ar53.2.2 hin53 hat53 (g := (mkF m 31 #[.val (.ref b1), .val (.int j0), .val (.int j1), .val (.int (2 : Int32)), .val (.int (2 : Int32)), .val (.int (0 : Int32))] [(.int (0 : Int32)), (.ref b1)])) rfl rfl (hb hby dq4_31) _ q) ?_
    exact own_retN (t := .char) X0 hx hrt (hb hby dq4_32) (by simp) hlk (by decide) (by decide) e0 (⟨c0, by rw [own_narc (own_up bc0)], (own_sl2_2 _ _ _ _ _ _ _ _).symm, bc0, N0, rfl⟩)

set_option maxRecDepth 65536 in
set_option maxHeartbeats 40000000 in
theorem rm33 (l : Launch) (Z : State) (a0 : Array Value) (hw : ∀ d ∈ tables_1, d.before a0 Z = true) (ws : List Jvm.Cond) (b1 : Addr) (k1 : ClassId) (j0 j1 kk c0 c1 c2 c3 c4 c5 : Int32) (h0 : Heap) (n0 : Nat) (hk : (kk = (0 : Int32) ∨ kk = (1 : Int32) ∨ kk = (2 : Int32))) (V1 : Arv Z h0 b1 k1 .char (6 : Int32) [(.int c0), (.int c1), (.int c2), (.int c3), (.int c4), (.int c5)] (.int (0 : Int32))) (bj0 : 0 ≤ j0.toInt ∧ j0.toInt ≤ 255) (bj1 : 0 ≤ j1.toInt ∧ j1.toInt ≤ 255) (bc0 : 0 ≤ c0.toInt ∧ c0.toInt ≤ 255) (bc1 : 0 ≤ c1.toInt ∧ c1.toInt ≤ 255) (bc2 : 0 ≤ c2.toInt ∧ c2.toInt ≤ 255) (bc3 : 0 ≤ c3.toInt ∧ c3.toInt ≤ 255) (bc4 : 0 ≤ c4.toInt ∧ c4.toInt ≤ 255) (bc5 : 0 ≤ c5.toInt ∧ c5.toInt ≤ 255) :
    own_Met l (⟨"com/example/cited_experts/citedexperts/EmailAddressHostEndPinLaw", "slot", "([CCCII)C"⟩ : MethodName) method_4_code 6 (some .char) ws own_R_0_0_0_0 Z #[(.ref b1), (.int j0), (.int j1), (.int kk), (.int (3 : Int32))] h0 (Q6 (own_sl kk 3 j0 j1 c0 c1 c2 c3 c4 c5) h0 n0) := by
  refine own_enter #[.val (.ref b1), .val (.int j0), .val (.int j1), .val (.int kk), .val (.int (3 : Int32)), .unset] (plainFor_of_name pn_com_example_cited_experts_citedexperts_EmailAddressHostEndPinLaw) (fun m => ef_RIIII_6 m b1 j0 j1 kk (3 : Int32)) ?_
  intro p e s m below meth c s₁ hx hby hml hown hnm hZ hrt hlk X0 e0
  have N0 := Fr.nil n0
  rcases hk with rfl | rfl | rfl
  ·
    refine own_tp (.int (3 : Int32)) 2 (fun _ q => XS.iload X0.here hx rfl (hb hby dq4_0) rfl q) ?_
    refine own_tp (.int (0 : Int32)) 3 (fun _ q => XS.iloadN X0.here hx rfl (hb hby dq4_2) rfl q) ?_
    refine own_d2 15 (fun _ q => XS.icmpYes X0.here hx rfl (pc0 := 3) (pc' := 15) rfl (hb hby dq4_3) rfl (flt (by decide : ¬ ((3 : Int32) < (0 : Int32)))).2.1 (by decide) (by decide) q) ?_
    refine own_tp (.int (3 : Int32)) 17 (fun _ q => XS.iload X0.here hx rfl (hb hby dq4_15) rfl q) ?_
    refine own_tp (.int (0 : Int32)) 18 (fun _ q => XS.iloadN X0.here hx rfl (hb hby dq4_17) rfl q) ?_
    refine own_d1 19 (fun _ q => XS.isub X0.here hx rfl (hb hby dq4_18) rfl q) ?_
    refine own_ls #[.val (.ref b1), .val (.int j0), .val (.int j1), .val (.int (0 : Int32)), .val (.int (3 : Int32)), .val (.int (3 : Int32))] 21 (fun _ q => XS.istore X0.here hx rfl (hb hby dq4_19) rfl (l' := #[.val (.ref b1), .val (.int j0), .val (.int j1), .val (.int (0 : Int32)), .val (.int (3 : Int32)), .val (.int (3 : Int32))]) rfl q) ?_
    refine own_tp (.int (3 : Int32)) 23 (fun _ q => XS.iload X0.here hx rfl (hb hby dq4_21) rfl q) ?_
    refine own_tp (.int (6 : Int32)) 25 (fun _ q => XS.bipush X0.here hx rfl (hb hby dq4_23) q) ?_
    refine own_d2 28 (fun _ q => XS.icmpNo X0.here hx rfl (hb hby dq4_25) rfl (tlt (by decide : (3 : Int32) < (6 : Int32))).2.1 q) ?_
    refine own_tp (.ref b1) 29 (fun _ q => XS.aloadN X0.here hx rfl (hb hby dq4_28) rfl rfl q) ?_
    refine own_tp (.int (3 : Int32)) 31 (fun _ q => XS.iload X0.here hx rfl (hb hby dq4_29) rfl q) ?_
    obtain ⟨cl51, Ar51, q51, S51, Nn51, H51, G51⟩ := (id V1)
    have hin51 : ¬ ((3 : Int32) < 0 ∨ cl51.slots.size ≤ ((3 : Int32)).toNatClampNeg) := inb_of S51 ⟨by decide, by decide⟩
    have hat51 : cl51.slots[((3 : Int32)).toNatClampNeg]? = some (.int c3) := H51.at hin51 rfl
    refine own_t2 (.int c3) 32 (fun _ q => X0.caload hx (j := (3 : Int32)) (v := (.int c3)) (by rw [e0]; exact Ar51.1) (State.isArrayOf_alike hZ.alike Ar51.2.1) Ar51.2.2 hin51 hat51 (g := (mkF m 31 #[.val (.ref b1), .val (.int j0), .val (.int j1), .val (.int (0 : Int32)), .val (.int (3 : Int32)), .val (.int (3 : Int32))] [(.int (3 : Int32)), (.ref b1)])) rfl rfl (hb hby dq4_31) _ q) ?_
    exact own_retN (t := .char) X0 hx hrt (hb hby dq4_32) (by simp) hlk (by decide) (by decide) e0 (⟨c3, by rw [own_narc (own_up bc3)], (own_sl0_3 _ _ _ _ _ _ _ _).symm, bc3, N0, rfl⟩)
  ·
    refine own_tp (.int (3 : Int32)) 2 (fun _ q => XS.iload X0.here hx rfl (hb hby dq4_0) rfl q) ?_
    refine own_tp (.int (1 : Int32)) 3 (fun _ q => XS.iloadN X0.here hx rfl (hb hby dq4_2) rfl q) ?_
    refine own_d2 15 (fun _ q => XS.icmpYes X0.here hx rfl (pc0 := 3) (pc' := 15) rfl (hb hby dq4_3) rfl (flt (by decide : ¬ ((3 : Int32) < (1 : Int32)))).2.1 (by decide) (by decide) q) ?_
    refine own_tp (.int (3 : Int32)) 17 (fun _ q => XS.iload X0.here hx rfl (hb hby dq4_15) rfl q) ?_
    refine own_tp (.int (1 : Int32)) 18 (fun _ q => XS.iloadN X0.here hx rfl (hb hby dq4_17) rfl q) ?_
    refine own_t2 (.int (2 : Int32)) 19 (fun _ q => XS.isub X0.here hx rfl (hb hby dq4_18) rfl q) ?_
    refine own_ls #[.val (.ref b1), .val (.int j0), .val (.int j1), .val (.int (1 : Int32)), .val (.int (3 : Int32)), .val (.int (2 : Int32))] 21 (fun _ q => XS.istore X0.here hx rfl (hb hby dq4_19) rfl (l' := #[.val (.ref b1), .val (.int j0), .val (.int j1), .val (.int (1 : Int32)), .val (.int (3 : Int32)), .val (.int (2 : Int32))]) rfl q) ?_
    refine own_tp (.int (2 : Int32)) 23 (fun _ q => XS.iload X0.here hx rfl (hb hby dq4_21) rfl q) ?_
    refine own_tp (.int (6 : Int32)) 25 (fun _ q => XS.bipush X0.here hx rfl (hb hby dq4_23) q) ?_
    refine own_d2 28 (fun _ q => XS.icmpNo X0.here hx rfl (hb hby dq4_25) rfl (tlt (by decide : (2 : Int32) < (6 : Int32))).2.1 q) ?_
    refine own_tp (.ref b1) 29 (fun _ q => XS.aloadN X0.here hx rfl (hb hby dq4_28) rfl rfl q) ?_
    refine own_tp (.int (2 : Int32)) 31 (fun _ q => XS.iload X0.here hx rfl (hb hby dq4_29) rfl q) ?_
    obtain ⟨cl52, Ar52, q52, S52, Nn52, H52, G52⟩ := (id V1)
    have hin52 : ¬ ((2 : Int32) < 0 ∨ cl52.slots.size ≤ ((2 : Int32)).toNatClampNeg) := inb_of S52 ⟨by decide, by decide⟩
    have hat52 : cl52.slots[((2 : Int32)).toNatClampNeg]? = some (.int c2) := H52.at hin52 rfl
    refine own_t2 (.int c2) 32 (fun _ q => X0.caload hx (j := (2 : Int32)) (v := (.int c2)) (by rw [e0]; exact Ar52.1) (State.isArrayOf_alike hZ.alike Ar52.2.1) Ar52.2.2 hin52 hat52 (g := (mkF m 31 #[.val (.ref b1), .val (.int j0), .val (.int j1), .val (.int (1 : Int32)), .val (.int (3 : Int32)), .val (.int (2 : Int32))] [(.int (2 : Int32)), (.ref b1)])) rfl rfl (hb hby dq4_31) _ q) ?_
    exact own_retN (t := .char) X0 hx hrt (hb hby dq4_32) (by simp) hlk (by decide) (by decide) e0 (⟨c2, by rw [own_narc (own_up bc2)], (own_sl1_3 _ _ _ _ _ _ _ _).symm, bc2, N0, rfl⟩)
  ·
    refine own_tp (.int (3 : Int32)) 2 (fun _ q => XS.iload X0.here hx rfl (hb hby dq4_0) rfl q) ?_
    refine own_tp (.int (2 : Int32)) 3 (fun _ q => XS.iloadN X0.here hx rfl (hb hby dq4_2) rfl q) ?_
    refine own_d2 15 (fun _ q => XS.icmpYes X0.here hx rfl (pc0 := 3) (pc' := 15) rfl (hb hby dq4_3) rfl (flt (by decide : ¬ ((3 : Int32) < (2 : Int32)))).2.1 (by decide) (by decide) q) ?_
    refine own_tp (.int (3 : Int32)) 17 (fun _ q => XS.iload X0.here hx rfl (hb hby dq4_15) rfl q) ?_
    refine own_tp (.int (2 : Int32)) 18 (fun _ q => XS.iloadN X0.here hx rfl (hb hby dq4_17) rfl q) ?_
    refine own_t2 (.int (1 : Int32)) 19 (fun _ q => XS.isub X0.here hx rfl (hb hby dq4_18) rfl q) ?_
    refine own_ls #[.val (.ref b1), .val (.int j0), .val (.int j1), .val (.int (2 : Int32)), .val (.int (3 : Int32)), .val (.int (1 : Int32))] 21 (fun _ q => XS.istore X0.here hx rfl (hb hby dq4_19) rfl (l' := #[.val (.ref b1), .val (.int j0), .val (.int j1), .val (.int (2 : Int32)), .val (.int (3 : Int32)), .val (.int (1 : Int32))]) rfl q) ?_
    refine own_tp (.int (1 : Int32)) 23 (fun _ q => XS.iload X0.here hx rfl (hb hby dq4_21) rfl q) ?_
    refine own_tp (.int (6 : Int32)) 25 (fun _ q => XS.bipush X0.here hx rfl (hb hby dq4_23) q) ?_
    refine own_d2 28 (fun _ q => XS.icmpNo X0.here hx rfl (hb hby dq4_25) rfl (tlt (by decide : (1 : Int32) < (6 : Int32))).2.1 q) ?_
    refine own_tp (.ref b1) 29 (fun _ q => XS.aloadN X0.here hx rfl (hb hby dq4_28) rfl rfl q) ?_
    refine own_tp (.int (1 : Int32)) 31 (fun _ q => XS.iload X0.here hx rfl (hb hby dq4_29) rfl q) ?_
    obtain ⟨cl53, Ar53, q53, S53, Nn53, H53, G53⟩ := (id V1)
    have hin53 : ¬ ((1 : Int32) < 0 ∨ cl53.slots.size ≤ ((1 : Int32)).toNatClampNeg) := inb_of S53 ⟨by decide, by decide⟩
    have hat53 : cl53.slots[((1 : Int32)).toNatClampNeg]? = some (.int c1) := H53.at hin53 rfl
    refine own_t2 (.int c1) 32 (fun _ q => X0.caload hx (j := (1 : Int32)) (v := (.int c1)) (by rw [e0]; exact Ar53.1) (State.isArrayOf_alike hZ.alike Ar53.2.1) Ar53.2.2 hin53 hat53 (g := (mkF m 31 #[.val (.ref b1), .val (.int j0), .val (.int j1), .val (.int (2 : Int32)), .val (.int (3 : Int32)), .val (.int (1 : Int32))] [(.int (1 : Int32)), (.ref b1)])) rfl rfl (hb hby dq4_31) _ q) ?_
    exact own_retN (t := .char) X0 hx hrt (hb hby dq4_32) (by simp) hlk (by decide) (by decide) e0 (⟨c1, by rw [own_narc (own_up bc1)], (own_sl2_3 _ _ _ _ _ _ _ _).symm, bc1, N0, rfl⟩)

set_option maxRecDepth 65536 in
set_option maxHeartbeats 40000000 in
theorem rm34 (l : Launch) (Z : State) (a0 : Array Value) (hw : ∀ d ∈ tables_1, d.before a0 Z = true) (ws : List Jvm.Cond) (b1 : Addr) (k1 : ClassId) (j0 j1 kk c0 c1 c2 c3 c4 c5 : Int32) (h0 : Heap) (n0 : Nat) (hk : (kk = (0 : Int32) ∨ kk = (1 : Int32) ∨ kk = (2 : Int32))) (V1 : Arv Z h0 b1 k1 .char (6 : Int32) [(.int c0), (.int c1), (.int c2), (.int c3), (.int c4), (.int c5)] (.int (0 : Int32))) (bj0 : 0 ≤ j0.toInt ∧ j0.toInt ≤ 255) (bj1 : 0 ≤ j1.toInt ∧ j1.toInt ≤ 255) (bc0 : 0 ≤ c0.toInt ∧ c0.toInt ≤ 255) (bc1 : 0 ≤ c1.toInt ∧ c1.toInt ≤ 255) (bc2 : 0 ≤ c2.toInt ∧ c2.toInt ≤ 255) (bc3 : 0 ≤ c3.toInt ∧ c3.toInt ≤ 255) (bc4 : 0 ≤ c4.toInt ∧ c4.toInt ≤ 255) (bc5 : 0 ≤ c5.toInt ∧ c5.toInt ≤ 255) :
    own_Met l (⟨"com/example/cited_experts/citedexperts/EmailAddressHostEndPinLaw", "slot", "([CCCII)C"⟩ : MethodName) method_4_code 6 (some .char) ws own_R_0_0_0_0 Z #[(.ref b1), (.int j0), (.int j1), (.int kk), (.int (4 : Int32))] h0 (Q6 (own_sl kk 4 j0 j1 c0 c1 c2 c3 c4 c5) h0 n0) := by
  refine own_enter #[.val (.ref b1), .val (.int j0), .val (.int j1), .val (.int kk), .val (.int (4 : Int32)), .unset] (plainFor_of_name pn_com_example_cited_experts_citedexperts_EmailAddressHostEndPinLaw) (fun m => ef_RIIII_6 m b1 j0 j1 kk (4 : Int32)) ?_
  intro p e s m below meth c s₁ hx hby hml hown hnm hZ hrt hlk X0 e0
  have N0 := Fr.nil n0
  rcases hk with rfl | rfl | rfl
  ·
    refine own_tp (.int (4 : Int32)) 2 (fun _ q => XS.iload X0.here hx rfl (hb hby dq4_0) rfl q) ?_
    refine own_tp (.int (0 : Int32)) 3 (fun _ q => XS.iloadN X0.here hx rfl (hb hby dq4_2) rfl q) ?_
    refine own_d2 15 (fun _ q => XS.icmpYes X0.here hx rfl (pc0 := 3) (pc' := 15) rfl (hb hby dq4_3) rfl (flt (by decide : ¬ ((4 : Int32) < (0 : Int32)))).2.1 (by decide) (by decide) q) ?_
    refine own_tp (.int (4 : Int32)) 17 (fun _ q => XS.iload X0.here hx rfl (hb hby dq4_15) rfl q) ?_
    refine own_tp (.int (0 : Int32)) 18 (fun _ q => XS.iloadN X0.here hx rfl (hb hby dq4_17) rfl q) ?_
    refine own_d1 19 (fun _ q => XS.isub X0.here hx rfl (hb hby dq4_18) rfl q) ?_
    refine own_ls #[.val (.ref b1), .val (.int j0), .val (.int j1), .val (.int (0 : Int32)), .val (.int (4 : Int32)), .val (.int (4 : Int32))] 21 (fun _ q => XS.istore X0.here hx rfl (hb hby dq4_19) rfl (l' := #[.val (.ref b1), .val (.int j0), .val (.int j1), .val (.int (0 : Int32)), .val (.int (4 : Int32)), .val (.int (4 : Int32))]) rfl q) ?_
    refine own_tp (.int (4 : Int32)) 23 (fun _ q => XS.iload X0.here hx rfl (hb hby dq4_21) rfl q) ?_
    refine own_tp (.int (6 : Int32)) 25 (fun _ q => XS.bipush X0.here hx rfl (hb hby dq4_23) q) ?_
    refine own_d2 28 (fun _ q => XS.icmpNo X0.here hx rfl (hb hby dq4_25) rfl (tlt (by decide : (4 : Int32) < (6 : Int32))).2.1 q) ?_
    refine own_tp (.ref b1) 29 (fun _ q => XS.aloadN X0.here hx rfl (hb hby dq4_28) rfl rfl q) ?_
    refine own_tp (.int (4 : Int32)) 31 (fun _ q => XS.iload X0.here hx rfl (hb hby dq4_29) rfl q) ?_
    obtain ⟨cl51, Ar51, q51, S51, Nn51, H51, G51⟩ := (id V1)
    have hin51 : ¬ ((4 : Int32) < 0 ∨ cl51.slots.size ≤ ((4 : Int32)).toNatClampNeg) := inb_of S51 ⟨by decide, by decide⟩
    have hat51 : cl51.slots[((4 : Int32)).toNatClampNeg]? = some (.int c4) := H51.at hin51 rfl
    refine own_t2 (.int c4) 32 (fun _ q => X0.caload hx (j := (4 : Int32)) (v := (.int c4)) (by rw [e0]; exact Ar51.1) (State.isArrayOf_alike hZ.alike Ar51.2.1) Ar51.2.2 hin51 hat51 (g := (mkF m 31 #[.val (.ref b1), .val (.int j0), .val (.int j1), .val (.int (0 : Int32)), .val (.int (4 : Int32)), .val (.int (4 : Int32))] [(.int (4 : Int32)), (.ref b1)])) rfl rfl (hb hby dq4_31) _ q) ?_
    exact own_retN (t := .char) X0 hx hrt (hb hby dq4_32) (by simp) hlk (by decide) (by decide) e0 (⟨c4, by rw [own_narc (own_up bc4)], (own_sl0_4 _ _ _ _ _ _ _ _).symm, bc4, N0, rfl⟩)
  ·
    refine own_tp (.int (4 : Int32)) 2 (fun _ q => XS.iload X0.here hx rfl (hb hby dq4_0) rfl q) ?_
    refine own_tp (.int (1 : Int32)) 3 (fun _ q => XS.iloadN X0.here hx rfl (hb hby dq4_2) rfl q) ?_
    refine own_d2 15 (fun _ q => XS.icmpYes X0.here hx rfl (pc0 := 3) (pc' := 15) rfl (hb hby dq4_3) rfl (flt (by decide : ¬ ((4 : Int32) < (1 : Int32)))).2.1 (by decide) (by decide) q) ?_
    refine own_tp (.int (4 : Int32)) 17 (fun _ q => XS.iload X0.here hx rfl (hb hby dq4_15) rfl q) ?_
    refine own_tp (.int (1 : Int32)) 18 (fun _ q => XS.iloadN X0.here hx rfl (hb hby dq4_17) rfl q) ?_
    refine own_t2 (.int (3 : Int32)) 19 (fun _ q => XS.isub X0.here hx rfl (hb hby dq4_18) rfl q) ?_
    refine own_ls #[.val (.ref b1), .val (.int j0), .val (.int j1), .val (.int (1 : Int32)), .val (.int (4 : Int32)), .val (.int (3 : Int32))] 21 (fun _ q => XS.istore X0.here hx rfl (hb hby dq4_19) rfl (l' := #[.val (.ref b1), .val (.int j0), .val (.int j1), .val (.int (1 : Int32)), .val (.int (4 : Int32)), .val (.int (3 : Int32))]) rfl q) ?_
    refine own_tp (.int (3 : Int32)) 23 (fun _ q => XS.iload X0.here hx rfl (hb hby dq4_21) rfl q) ?_
    refine own_tp (.int (6 : Int32)) 25 (fun _ q => XS.bipush X0.here hx rfl (hb hby dq4_23) q) ?_
    refine own_d2 28 (fun _ q => XS.icmpNo X0.here hx rfl (hb hby dq4_25) rfl (tlt (by decide : (3 : Int32) < (6 : Int32))).2.1 q) ?_
    refine own_tp (.ref b1) 29 (fun _ q => XS.aloadN X0.here hx rfl (hb hby dq4_28) rfl rfl q) ?_
    refine own_tp (.int (3 : Int32)) 31 (fun _ q => XS.iload X0.here hx rfl (hb hby dq4_29) rfl q) ?_
    obtain ⟨cl52, Ar52, q52, S52, Nn52, H52, G52⟩ := (id V1)
    have hin52 : ¬ ((3 : Int32) < 0 ∨ cl52.slots.size ≤ ((3 : Int32)).toNatClampNeg) := inb_of S52 ⟨by decide, by decide⟩
    have hat52 : cl52.slots[((3 : Int32)).toNatClampNeg]? = some (.int c3) := H52.at hin52 rfl
    refine own_t2 (.int c3) 32 (fun _ q => X0.caload hx (j := (3 : Int32)) (v := (.int c3)) (by rw [e0]; exact Ar52.1) (State.isArrayOf_alike hZ.alike Ar52.2.1) Ar52.2.2 hin52 hat52 (g := (mkF m 31 #[.val (.ref b1), .val (.int j0), .val (.int j1), .val (.int (1 : Int32)), .val (.int (4 : Int32)), .val (.int (3 : Int32))] [(.int (3 : Int32)), (.ref b1)])) rfl rfl (hb hby dq4_31) _ q) ?_
    exact own_retN (t := .char) X0 hx hrt (hb hby dq4_32) (by simp) hlk (by decide) (by decide) e0 (⟨c3, by rw [own_narc (own_up bc3)], (own_sl1_4 _ _ _ _ _ _ _ _).symm, bc3, N0, rfl⟩)
  ·
    refine own_tp (.int (4 : Int32)) 2 (fun _ q => XS.iload X0.here hx rfl (hb hby dq4_0) rfl q) ?_
    refine own_tp (.int (2 : Int32)) 3 (fun _ q => XS.iloadN X0.here hx rfl (hb hby dq4_2) rfl q) ?_
    refine own_d2 15 (fun _ q => XS.icmpYes X0.here hx rfl (pc0 := 3) (pc' := 15) rfl (hb hby dq4_3) rfl (flt (by decide : ¬ ((4 : Int32) < (2 : Int32)))).2.1 (by decide) (by decide) q) ?_
    refine own_tp (.int (4 : Int32)) 17 (fun _ q => XS.iload X0.here hx rfl (hb hby dq4_15) rfl q) ?_
    refine own_tp (.int (2 : Int32)) 18 (fun _ q => XS.iloadN X0.here hx rfl (hb hby dq4_17) rfl q) ?_
    refine own_t2 (.int (2 : Int32)) 19 (fun _ q => XS.isub X0.here hx rfl (hb hby dq4_18) rfl q) ?_
    refine own_ls #[.val (.ref b1), .val (.int j0), .val (.int j1), .val (.int (2 : Int32)), .val (.int (4 : Int32)), .val (.int (2 : Int32))] 21 (fun _ q => XS.istore X0.here hx rfl (hb hby dq4_19) rfl (l' := #[.val (.ref b1), .val (.int j0), .val (.int j1), .val (.int (2 : Int32)), .val (.int (4 : Int32)), .val (.int (2 : Int32))]) rfl q) ?_
    refine own_tp (.int (2 : Int32)) 23 (fun _ q => XS.iload X0.here hx rfl (hb hby dq4_21) rfl q) ?_
    refine own_tp (.int (6 : Int32)) 25 (fun _ q => XS.bipush X0.here hx rfl (hb hby dq4_23) q) ?_
    refine own_d2 28 (fun _ q => XS.icmpNo X0.here hx rfl (hb hby dq4_25) rfl (tlt (by decide : (2 : Int32) < (6 : Int32))).2.1 q) ?_
    refine own_tp (.ref b1) 29 (fun _ q => XS.aloadN X0.here hx rfl (hb hby dq4_28) rfl rfl q) ?_
    refine own_tp (.int (2 : Int32)) 31 (fun _ q => XS.iload X0.here hx rfl (hb hby dq4_29) rfl q) ?_
    obtain ⟨cl53, Ar53, q53, S53, Nn53, H53, G53⟩ := (id V1)
    have hin53 : ¬ ((2 : Int32) < 0 ∨ cl53.slots.size ≤ ((2 : Int32)).toNatClampNeg) := inb_of S53 ⟨by decide, by decide⟩
    have hat53 : cl53.slots[((2 : Int32)).toNatClampNeg]? = some (.int c2) := H53.at hin53 rfl
    refine own_t2 (.int c2) 32 (fun _ q => X0.caload hx (j := (2 : Int32)) (v := (.int c2)) (by rw [e0]; exact Ar53.1) (State.isArrayOf_alike hZ.alike Ar53.2.1) Ar53.2.2 hin53 hat53 (g := (mkF m 31 #[.val (.ref b1), .val (.int j0), .val (.int j1), .val (.int (2 : Int32)), .val (.int (4 : Int32)), .val (.int (2 : Int32))] [(.int (2 : Int32)), (.ref b1)])) rfl rfl (hb hby dq4_31) _ q) ?_
    exact own_retN (t := .char) X0 hx hrt (hb hby dq4_32) (by simp) hlk (by decide) (by decide) e0 (⟨c2, by rw [own_narc (own_up bc2)], (own_sl2_4 _ _ _ _ _ _ _ _).symm, bc2, N0, rfl⟩)

set_option maxRecDepth 65536 in
set_option maxHeartbeats 40000000 in
theorem rm35 (l : Launch) (Z : State) (a0 : Array Value) (hw : ∀ d ∈ tables_1, d.before a0 Z = true) (ws : List Jvm.Cond) (b1 : Addr) (k1 : ClassId) (j0 j1 kk c0 c1 c2 c3 c4 c5 : Int32) (h0 : Heap) (n0 : Nat) (hk : (kk = (0 : Int32) ∨ kk = (1 : Int32) ∨ kk = (2 : Int32))) (V1 : Arv Z h0 b1 k1 .char (6 : Int32) [(.int c0), (.int c1), (.int c2), (.int c3), (.int c4), (.int c5)] (.int (0 : Int32))) (bj0 : 0 ≤ j0.toInt ∧ j0.toInt ≤ 255) (bj1 : 0 ≤ j1.toInt ∧ j1.toInt ≤ 255) (bc0 : 0 ≤ c0.toInt ∧ c0.toInt ≤ 255) (bc1 : 0 ≤ c1.toInt ∧ c1.toInt ≤ 255) (bc2 : 0 ≤ c2.toInt ∧ c2.toInt ≤ 255) (bc3 : 0 ≤ c3.toInt ∧ c3.toInt ≤ 255) (bc4 : 0 ≤ c4.toInt ∧ c4.toInt ≤ 255) (bc5 : 0 ≤ c5.toInt ∧ c5.toInt ≤ 255) :
    own_Met l (⟨"com/example/cited_experts/citedexperts/EmailAddressHostEndPinLaw", "slot", "([CCCII)C"⟩ : MethodName) method_4_code 6 (some .char) ws own_R_0_0_0_0 Z #[(.ref b1), (.int j0), (.int j1), (.int kk), (.int (5 : Int32))] h0 (Q6 (own_sl kk 5 j0 j1 c0 c1 c2 c3 c4 c5) h0 n0) := by
  refine own_enter #[.val (.ref b1), .val (.int j0), .val (.int j1), .val (.int kk), .val (.int (5 : Int32)), .unset] (plainFor_of_name pn_com_example_cited_experts_citedexperts_EmailAddressHostEndPinLaw) (fun m => ef_RIIII_6 m b1 j0 j1 kk (5 : Int32)) ?_
  intro p e s m below meth c s₁ hx hby hml hown hnm hZ hrt hlk X0 e0
  have N0 := Fr.nil n0
  rcases hk with rfl | rfl | rfl
  ·
    refine own_tp (.int (5 : Int32)) 2 (fun _ q => XS.iload X0.here hx rfl (hb hby dq4_0) rfl q) ?_
    refine own_tp (.int (0 : Int32)) 3 (fun _ q => XS.iloadN X0.here hx rfl (hb hby dq4_2) rfl q) ?_
    refine own_d2 15 (fun _ q => XS.icmpYes X0.here hx rfl (pc0 := 3) (pc' := 15) rfl (hb hby dq4_3) rfl (flt (by decide : ¬ ((5 : Int32) < (0 : Int32)))).2.1 (by decide) (by decide) q) ?_
    refine own_tp (.int (5 : Int32)) 17 (fun _ q => XS.iload X0.here hx rfl (hb hby dq4_15) rfl q) ?_
    refine own_tp (.int (0 : Int32)) 18 (fun _ q => XS.iloadN X0.here hx rfl (hb hby dq4_17) rfl q) ?_
    refine own_d1 19 (fun _ q => XS.isub X0.here hx rfl (hb hby dq4_18) rfl q) ?_
    refine own_ls #[.val (.ref b1), .val (.int j0), .val (.int j1), .val (.int (0 : Int32)), .val (.int (5 : Int32)), .val (.int (5 : Int32))] 21 (fun _ q => XS.istore X0.here hx rfl (hb hby dq4_19) rfl (l' := #[.val (.ref b1), .val (.int j0), .val (.int j1), .val (.int (0 : Int32)), .val (.int (5 : Int32)), .val (.int (5 : Int32))]) rfl q) ?_
    refine own_tp (.int (5 : Int32)) 23 (fun _ q => XS.iload X0.here hx rfl (hb hby dq4_21) rfl q) ?_
    refine own_tp (.int (6 : Int32)) 25 (fun _ q => XS.bipush X0.here hx rfl (hb hby dq4_23) q) ?_
    refine own_d2 28 (fun _ q => XS.icmpNo X0.here hx rfl (hb hby dq4_25) rfl (tlt (by decide : (5 : Int32) < (6 : Int32))).2.1 q) ?_
    refine own_tp (.ref b1) 29 (fun _ q => XS.aloadN X0.here hx rfl (hb hby dq4_28) rfl rfl q) ?_
    refine own_tp (.int (5 : Int32)) 31 (fun _ q => XS.iload X0.here hx rfl (hb hby dq4_29) rfl q) ?_
    obtain ⟨cl51, Ar51, q51, S51, Nn51, H51, G51⟩ := (id V1)
    have hin51 : ¬ ((5 : Int32) < 0 ∨ cl51.slots.size ≤ ((5 : Int32)).toNatClampNeg) := inb_of S51 ⟨by decide, by decide⟩
    have hat51 : cl51.slots[((5 : Int32)).toNatClampNeg]? = some (.int c5) := H51.at hin51 rfl
    refine own_t2 (.int c5) 32 (fun _ q => X0.caload hx (j := (5 : Int32)) (v := (.int c5)) (by rw [e0]; exact Ar51.1) (State.isArrayOf_alike hZ.alike Ar51.2.1) Ar51.2.2 hin51 hat51 (g := (mkF m 31 #[.val (.ref b1), .val (.int j0), .val (.int j1), .val (.int (0 : Int32)), .val (.int (5 : Int32)), .val (.int (5 : Int32))] [(.int (5 : Int32)), (.ref b1)])) rfl rfl (hb hby dq4_31) _ q) ?_
    exact own_retN (t := .char) X0 hx hrt (hb hby dq4_32) (by simp) hlk (by decide) (by decide) e0 (⟨c5, by rw [own_narc (own_up bc5)], (own_sl0_5 _ _ _ _ _ _ _ _).symm, bc5, N0, rfl⟩)
  ·
    refine own_tp (.int (5 : Int32)) 2 (fun _ q => XS.iload X0.here hx rfl (hb hby dq4_0) rfl q) ?_
    refine own_tp (.int (1 : Int32)) 3 (fun _ q => XS.iloadN X0.here hx rfl (hb hby dq4_2) rfl q) ?_
    refine own_d2 15 (fun _ q => XS.icmpYes X0.here hx rfl (pc0 := 3) (pc' := 15) rfl (hb hby dq4_3) rfl (flt (by decide : ¬ ((5 : Int32) < (1 : Int32)))).2.1 (by decide) (by decide) q) ?_
    refine own_tp (.int (5 : Int32)) 17 (fun _ q => XS.iload X0.here hx rfl (hb hby dq4_15) rfl q) ?_
    refine own_tp (.int (1 : Int32)) 18 (fun _ q => XS.iloadN X0.here hx rfl (hb hby dq4_17) rfl q) ?_
    refine own_t2 (.int (4 : Int32)) 19 (fun _ q => XS.isub X0.here hx rfl (hb hby dq4_18) rfl q) ?_
    refine own_ls #[.val (.ref b1), .val (.int j0), .val (.int j1), .val (.int (1 : Int32)), .val (.int (5 : Int32)), .val (.int (4 : Int32))] 21 (fun _ q => XS.istore X0.here hx rfl (hb hby dq4_19) rfl (l' := #[.val (.ref b1), .val (.int j0), .val (.int j1), .val (.int (1 : Int32)), .val (.int (5 : Int32)), .val (.int (4 : Int32))]) rfl q) ?_
    refine own_tp (.int (4 : Int32)) 23 (fun _ q => XS.iload X0.here hx rfl (hb hby dq4_21) rfl q) ?_
    refine own_tp (.int (6 : Int32)) 25 (fun _ q => XS.bipush X0.here hx rfl (hb hby dq4_23) q) ?_
    refine own_d2 28 (fun _ q => XS.icmpNo X0.here hx rfl (hb hby dq4_25) rfl (tlt (by decide : (4 : Int32) < (6 : Int32))).2.1 q) ?_
    refine own_tp (.ref b1) 29 (fun _ q => XS.aloadN X0.here hx rfl (hb hby dq4_28) rfl rfl q) ?_
    refine own_tp (.int (4 : Int32)) 31 (fun _ q => XS.iload X0.here hx rfl (hb hby dq4_29) rfl q) ?_
    obtain ⟨cl52, Ar52, q52, S52, Nn52, H52, G52⟩ := (id V1)
    have hin52 : ¬ ((4 : Int32) < 0 ∨ cl52.slots.size ≤ ((4 : Int32)).toNatClampNeg) := inb_of S52 ⟨by decide, by decide⟩
    have hat52 : cl52.slots[((4 : Int32)).toNatClampNeg]? = some (.int c4) := H52.at hin52 rfl
    refine own_t2 (.int c4) 32 (fun _ q => X0.caload hx (j := (4 : Int32)) (v := (.int c4)) (by rw [e0]; exact Ar52.1) (State.isArrayOf_alike hZ.alike Ar52.2.1) Ar52.2.2 hin52 hat52 (g := (mkF m 31 #[.val (.ref b1), .val (.int j0), .val (.int j1), .val (.int (1 : Int32)), .val (.int (5 : Int32)), .val (.int (4 : Int32))] [(.int (4 : Int32)), (.ref b1)])) rfl rfl (hb hby dq4_31) _ q) ?_
    exact own_retN (t := .char) X0 hx hrt (hb hby dq4_32) (by simp) hlk (by decide) (by decide) e0 (⟨c4, by rw [own_narc (own_up bc4)], (own_sl1_5 _ _ _ _ _ _ _ _).symm, bc4, N0, rfl⟩)
  ·
    refine own_tp (.int (5 : Int32)) 2 (fun _ q => XS.iload X0.here hx rfl (hb hby dq4_0) rfl q) ?_
    refine own_tp (.int (2 : Int32)) 3 (fun _ q => XS.iloadN X0.here hx rfl (hb hby dq4_2) rfl q) ?_
    refine own_d2 15 (fun _ q => XS.icmpYes X0.here hx rfl (pc0 := 3) (pc' := 15) rfl (hb hby dq4_3) rfl (flt (by decide : ¬ ((5 : Int32) < (2 : Int32)))).2.1 (by decide) (by decide) q) ?_
    refine own_tp (.int (5 : Int32)) 17 (fun _ q => XS.iload X0.here hx rfl (hb hby dq4_15) rfl q) ?_
    refine own_tp (.int (2 : Int32)) 18 (fun _ q => XS.iloadN X0.here hx rfl (hb hby dq4_17) rfl q) ?_
    refine own_t2 (.int (3 : Int32)) 19 (fun _ q => XS.isub X0.here hx rfl (hb hby dq4_18) rfl q) ?_
    refine own_ls #[.val (.ref b1), .val (.int j0), .val (.int j1), .val (.int (2 : Int32)), .val (.int (5 : Int32)), .val (.int (3 : Int32))] 21 (fun _ q => XS.istore X0.here hx rfl (hb hby dq4_19) rfl (l' := #[.val (.ref b1), .val (.int j0), .val (.int j1), .val (.int (2 : Int32)), .val (.int (5 : Int32)), .val (.int (3 : Int32))]) rfl q) ?_
    refine own_tp (.int (3 : Int32)) 23 (fun _ q => XS.iload X0.here hx rfl (hb hby dq4_21) rfl q) ?_
    refine own_tp (.int (6 : Int32)) 25 (fun _ q => XS.bipush X0.here hx rfl (hb hby dq4_23) q) ?_
    refine own_d2 28 (fun _ q => XS.icmpNo X0.here hx rfl (hb hby dq4_25) rfl (tlt (by decide : (3 : Int32) < (6 : Int32))).2.1 q) ?_
    refine own_tp (.ref b1) 29 (fun _ q => XS.aloadN X0.here hx rfl (hb hby dq4_28) rfl rfl q) ?_
    refine own_tp (.int (3 : Int32)) 31 (fun _ q => XS.iload X0.here hx rfl (hb hby dq4_29) rfl q) ?_
    obtain ⟨cl53, Ar53, q53, S53, Nn53, H53, G53⟩ := (id V1)
    have hin53 : ¬ ((3 : Int32) < 0 ∨ cl53.slots.size ≤ ((3 : Int32)).toNatClampNeg) := inb_of S53 ⟨by decide, by decide⟩
    have hat53 : cl53.slots[((3 : Int32)).toNatClampNeg]? = some (.int c3) := H53.at hin53 rfl
    refine own_t2 (.int c3) 32 (fun _ q => X0.caload hx (j := (3 : Int32)) (v := (.int c3)) (by rw [e0]; exact Ar53.1) (State.isArrayOf_alike hZ.alike Ar53.2.1) Ar53.2.2 hin53 hat53 (g := (mkF m 31 #[.val (.ref b1), .val (.int j0), .val (.int j1), .val (.int (2 : Int32)), .val (.int (5 : Int32)), .val (.int (3 : Int32))] [(.int (3 : Int32)), (.ref b1)])) rfl rfl (hb hby dq4_31) _ q) ?_
    exact own_retN (t := .char) X0 hx hrt (hb hby dq4_32) (by simp) hlk (by decide) (by decide) e0 (⟨c3, by rw [own_narc (own_up bc3)], (own_sl2_5 _ _ _ _ _ _ _ _).symm, bc3, N0, rfl⟩)

set_option maxRecDepth 65536 in
set_option maxHeartbeats 40000000 in
theorem rm36 (l : Launch) (Z : State) (a0 : Array Value) (hw : ∀ d ∈ tables_1, d.before a0 Z = true) (ws : List Jvm.Cond) (b1 : Addr) (k1 : ClassId) (j0 j1 kk c0 c1 c2 c3 c4 c5 : Int32) (h0 : Heap) (n0 : Nat) (hk : (kk = (0 : Int32) ∨ kk = (1 : Int32) ∨ kk = (2 : Int32))) (V1 : Arv Z h0 b1 k1 .char (6 : Int32) [(.int c0), (.int c1), (.int c2), (.int c3), (.int c4), (.int c5)] (.int (0 : Int32))) (bj0 : 0 ≤ j0.toInt ∧ j0.toInt ≤ 255) (bj1 : 0 ≤ j1.toInt ∧ j1.toInt ≤ 255) (bc0 : 0 ≤ c0.toInt ∧ c0.toInt ≤ 255) (bc1 : 0 ≤ c1.toInt ∧ c1.toInt ≤ 255) (bc2 : 0 ≤ c2.toInt ∧ c2.toInt ≤ 255) (bc3 : 0 ≤ c3.toInt ∧ c3.toInt ≤ 255) (bc4 : 0 ≤ c4.toInt ∧ c4.toInt ≤ 255) (bc5 : 0 ≤ c5.toInt ∧ c5.toInt ≤ 255) :
    own_Met l (⟨"com/example/cited_experts/citedexperts/EmailAddressHostEndPinLaw", "slot", "([CCCII)C"⟩ : MethodName) method_4_code 6 (some .char) ws own_R_0_0_0_0 Z #[(.ref b1), (.int j0), (.int j1), (.int kk), (.int (6 : Int32))] h0 (Q6 (own_sl kk 6 j0 j1 c0 c1 c2 c3 c4 c5) h0 n0) := by
  refine own_enter #[.val (.ref b1), .val (.int j0), .val (.int j1), .val (.int kk), .val (.int (6 : Int32)), .unset] (plainFor_of_name pn_com_example_cited_experts_citedexperts_EmailAddressHostEndPinLaw) (fun m => ef_RIIII_6 m b1 j0 j1 kk (6 : Int32)) ?_
  intro p e s m below meth c s₁ hx hby hml hown hnm hZ hrt hlk X0 e0
  have N0 := Fr.nil n0
  rcases hk with rfl | rfl | rfl
  ·
    refine own_tp (.int (6 : Int32)) 2 (fun _ q => XS.iload X0.here hx rfl (hb hby dq4_0) rfl q) ?_
    refine own_tp (.int (0 : Int32)) 3 (fun _ q => XS.iloadN X0.here hx rfl (hb hby dq4_2) rfl q) ?_
    refine own_d2 15 (fun _ q => XS.icmpYes X0.here hx rfl (pc0 := 3) (pc' := 15) rfl (hb hby dq4_3) rfl (flt (by decide : ¬ ((6 : Int32) < (0 : Int32)))).2.1 (by decide) (by decide) q) ?_
    refine own_tp (.int (6 : Int32)) 17 (fun _ q => XS.iload X0.here hx rfl (hb hby dq4_15) rfl q) ?_
    refine own_tp (.int (0 : Int32)) 18 (fun _ q => XS.iloadN X0.here hx rfl (hb hby dq4_17) rfl q) ?_
    refine own_d1 19 (fun _ q => XS.isub X0.here hx rfl (hb hby dq4_18) rfl q) ?_
    refine own_ls #[.val (.ref b1), .val (.int j0), .val (.int j1), .val (.int (0 : Int32)), .val (.int (6 : Int32)), .val (.int (6 : Int32))] 21 (fun _ q => XS.istore X0.here hx rfl (hb hby dq4_19) rfl (l' := #[.val (.ref b1), .val (.int j0), .val (.int j1), .val (.int (0 : Int32)), .val (.int (6 : Int32)), .val (.int (6 : Int32))]) rfl q) ?_
    refine own_tp (.int (6 : Int32)) 23 (fun _ q => XS.iload X0.here hx rfl (hb hby dq4_21) rfl q) ?_
    refine own_tp (.int (6 : Int32)) 25 (fun _ q => XS.bipush X0.here hx rfl (hb hby dq4_23) q) ?_
    refine own_d2 33 (fun _ q => XS.icmpYes X0.here hx rfl (pc0 := 25) (pc' := 33) rfl (hb hby dq4_25) rfl (flt (by decide : ¬ ((6 : Int32) < (6 : Int32)))).2.1 (by decide) (by decide) q) ?_
    refine own_tp (.int (64 : Int32)) 35 (fun _ q => XS.bipush X0.here hx rfl (hb hby dq4_33) q) ?_
    exact own_retN (t := .char) X0 hx hrt (hb hby dq4_35) (by simp) hlk (by decide) (by decide) e0 (⟨(64 : Int32), rfl, (own_sl0_6 _ _ _ _ _ _ _ _).symm, ⟨by decide, by decide⟩, N0, rfl⟩)
  ·
    refine own_tp (.int (6 : Int32)) 2 (fun _ q => XS.iload X0.here hx rfl (hb hby dq4_0) rfl q) ?_
    refine own_tp (.int (1 : Int32)) 3 (fun _ q => XS.iloadN X0.here hx rfl (hb hby dq4_2) rfl q) ?_
    refine own_d2 15 (fun _ q => XS.icmpYes X0.here hx rfl (pc0 := 3) (pc' := 15) rfl (hb hby dq4_3) rfl (flt (by decide : ¬ ((6 : Int32) < (1 : Int32)))).2.1 (by decide) (by decide) q) ?_
    refine own_tp (.int (6 : Int32)) 17 (fun _ q => XS.iload X0.here hx rfl (hb hby dq4_15) rfl q) ?_
    refine own_tp (.int (1 : Int32)) 18 (fun _ q => XS.iloadN X0.here hx rfl (hb hby dq4_17) rfl q) ?_
    refine own_t2 (.int (5 : Int32)) 19 (fun _ q => XS.isub X0.here hx rfl (hb hby dq4_18) rfl q) ?_
    refine own_ls #[.val (.ref b1), .val (.int j0), .val (.int j1), .val (.int (1 : Int32)), .val (.int (6 : Int32)), .val (.int (5 : Int32))] 21 (fun _ q => XS.istore X0.here hx rfl (hb hby dq4_19) rfl (l' := #[.val (.ref b1), .val (.int j0), .val (.int j1), .val (.int (1 : Int32)), .val (.int (6 : Int32)), .val (.int (5 : Int32))]) rfl q) ?_
    refine own_tp (.int (5 : Int32)) 23 (fun _ q => XS.iload X0.here hx rfl (hb hby dq4_21) rfl q) ?_
    refine own_tp (.int (6 : Int32)) 25 (fun _ q => XS.bipush X0.here hx rfl (hb hby dq4_23) q) ?_
    refine own_d2 28 (fun _ q => XS.icmpNo X0.here hx rfl (hb hby dq4_25) rfl (tlt (by decide : (5 : Int32) < (6 : Int32))).2.1 q) ?_
    refine own_tp (.ref b1) 29 (fun _ q => XS.aloadN X0.here hx rfl (hb hby dq4_28) rfl rfl q) ?_
    refine own_tp (.int (5 : Int32)) 31 (fun _ q => XS.iload X0.here hx rfl (hb hby dq4_29) rfl q) ?_
    obtain ⟨cl51, Ar51, q51, S51, Nn51, H51, G51⟩ := (id V1)
    have hin51 : ¬ ((5 : Int32) < 0 ∨ cl51.slots.size ≤ ((5 : Int32)).toNatClampNeg) := inb_of S51 ⟨by decide, by decide⟩
    have hat51 : cl51.slots[((5 : Int32)).toNatClampNeg]? = some (.int c5) := H51.at hin51 rfl
    refine own_t2 (.int c5) 32 (fun _ q => X0.caload hx (j := (5 : Int32)) (v := (.int c5)) (by rw [e0]; exact Ar51.1) (State.isArrayOf_alike hZ.alike Ar51.2.1) Ar51.2.2 hin51 hat51 (g := (mkF m 31 #[.val (.ref b1), .val (.int j0), .val (.int j1), .val (.int (1 : Int32)), .val (.int (6 : Int32)), .val (.int (5 : Int32))] [(.int (5 : Int32)), (.ref b1)])) rfl rfl (hb hby dq4_31) _ q) ?_
    exact own_retN (t := .char) X0 hx hrt (hb hby dq4_32) (by simp) hlk (by decide) (by decide) e0 (⟨c5, by rw [own_narc (own_up bc5)], (own_sl1_6 _ _ _ _ _ _ _ _).symm, bc5, N0, rfl⟩)
  ·
    refine own_tp (.int (6 : Int32)) 2 (fun _ q => XS.iload X0.here hx rfl (hb hby dq4_0) rfl q) ?_
    refine own_tp (.int (2 : Int32)) 3 (fun _ q => XS.iloadN X0.here hx rfl (hb hby dq4_2) rfl q) ?_
    refine own_d2 15 (fun _ q => XS.icmpYes X0.here hx rfl (pc0 := 3) (pc' := 15) rfl (hb hby dq4_3) rfl (flt (by decide : ¬ ((6 : Int32) < (2 : Int32)))).2.1 (by decide) (by decide) q) ?_
    refine own_tp (.int (6 : Int32)) 17 (fun _ q => XS.iload X0.here hx rfl (hb hby dq4_15) rfl q) ?_
    refine own_tp (.int (2 : Int32)) 18 (fun _ q => XS.iloadN X0.here hx rfl (hb hby dq4_17) rfl q) ?_
    refine own_t2 (.int (4 : Int32)) 19 (fun _ q => XS.isub X0.here hx rfl (hb hby dq4_18) rfl q) ?_
    refine own_ls #[.val (.ref b1), .val (.int j0), .val (.int j1), .val (.int (2 : Int32)), .val (.int (6 : Int32)), .val (.int (4 : Int32))] 21 (fun _ q => XS.istore X0.here hx rfl (hb hby dq4_19) rfl (l' := #[.val (.ref b1), .val (.int j0), .val (.int j1), .val (.int (2 : Int32)), .val (.int (6 : Int32)), .val (.int (4 : Int32))]) rfl q) ?_
    refine own_tp (.int (4 : Int32)) 23 (fun _ q => XS.iload X0.here hx rfl (hb hby dq4_21) rfl q) ?_
    refine own_tp (.int (6 : Int32)) 25 (fun _ q => XS.bipush X0.here hx rfl (hb hby dq4_23) q) ?_
    refine own_d2 28 (fun _ q => XS.icmpNo X0.here hx rfl (hb hby dq4_25) rfl (tlt (by decide : (4 : Int32) < (6 : Int32))).2.1 q) ?_
    refine own_tp (.ref b1) 29 (fun _ q => XS.aloadN X0.here hx rfl (hb hby dq4_28) rfl rfl q) ?_
    refine own_tp (.int (4 : Int32)) 31 (fun _ q => XS.iload X0.here hx rfl (hb hby dq4_29) rfl q) ?_
    obtain ⟨cl52, Ar52, q52, S52, Nn52, H52, G52⟩ := (id V1)
    have hin52 : ¬ ((4 : Int32) < 0 ∨ cl52.slots.size ≤ ((4 : Int32)).toNatClampNeg) := inb_of S52 ⟨by decide, by decide⟩
    have hat52 : cl52.slots[((4 : Int32)).toNatClampNeg]? = some (.int c4) := H52.at hin52 rfl
    refine own_t2 (.int c4) 32 (fun _ q => X0.caload hx (j := (4 : Int32)) (v := (.int c4)) (by rw [e0]; exact Ar52.1) (State.isArrayOf_alike hZ.alike Ar52.2.1) Ar52.2.2 hin52 hat52 (g := (mkF m 31 #[.val (.ref b1), .val (.int j0), .val (.int j1), .val (.int (2 : Int32)), .val (.int (6 : Int32)), .val (.int (4 : Int32))] [(.int (4 : Int32)), (.ref b1)])) rfl rfl (hb hby dq4_31) _ q) ?_
    exact own_retN (t := .char) X0 hx hrt (hb hby dq4_32) (by simp) hlk (by decide) (by decide) e0 (⟨c4, by rw [own_narc (own_up bc4)], (own_sl2_6 _ _ _ _ _ _ _ _).symm, bc4, N0, rfl⟩)

set_option maxRecDepth 65536 in
set_option maxHeartbeats 40000000 in
theorem rm37 (l : Launch) (Z : State) (a0 : Array Value) (hw : ∀ d ∈ tables_1, d.before a0 Z = true) (ws : List Jvm.Cond) (b1 : Addr) (k1 : ClassId) (j0 j1 kk c0 c1 c2 c3 c4 c5 : Int32) (h0 : Heap) (n0 : Nat) (hk : (kk = (0 : Int32) ∨ kk = (1 : Int32) ∨ kk = (2 : Int32))) (V1 : Arv Z h0 b1 k1 .char (6 : Int32) [(.int c0), (.int c1), (.int c2), (.int c3), (.int c4), (.int c5)] (.int (0 : Int32))) (bj0 : 0 ≤ j0.toInt ∧ j0.toInt ≤ 255) (bj1 : 0 ≤ j1.toInt ∧ j1.toInt ≤ 255) (bc0 : 0 ≤ c0.toInt ∧ c0.toInt ≤ 255) (bc1 : 0 ≤ c1.toInt ∧ c1.toInt ≤ 255) (bc2 : 0 ≤ c2.toInt ∧ c2.toInt ≤ 255) (bc3 : 0 ≤ c3.toInt ∧ c3.toInt ≤ 255) (bc4 : 0 ≤ c4.toInt ∧ c4.toInt ≤ 255) (bc5 : 0 ≤ c5.toInt ∧ c5.toInt ≤ 255) :
    own_Met l (⟨"com/example/cited_experts/citedexperts/EmailAddressHostEndPinLaw", "slot", "([CCCII)C"⟩ : MethodName) method_4_code 6 (some .char) ws own_R_0_0_0_0 Z #[(.ref b1), (.int j0), (.int j1), (.int kk), (.int (7 : Int32))] h0 (Q6 (own_sl kk 7 j0 j1 c0 c1 c2 c3 c4 c5) h0 n0) := by
  refine own_enter #[.val (.ref b1), .val (.int j0), .val (.int j1), .val (.int kk), .val (.int (7 : Int32)), .unset] (plainFor_of_name pn_com_example_cited_experts_citedexperts_EmailAddressHostEndPinLaw) (fun m => ef_RIIII_6 m b1 j0 j1 kk (7 : Int32)) ?_
  intro p e s m below meth c s₁ hx hby hml hown hnm hZ hrt hlk X0 e0
  have N0 := Fr.nil n0
  rcases hk with rfl | rfl | rfl
  ·
    refine own_tp (.int (7 : Int32)) 2 (fun _ q => XS.iload X0.here hx rfl (hb hby dq4_0) rfl q) ?_
    refine own_tp (.int (0 : Int32)) 3 (fun _ q => XS.iloadN X0.here hx rfl (hb hby dq4_2) rfl q) ?_
    refine own_d2 15 (fun _ q => XS.icmpYes X0.here hx rfl (pc0 := 3) (pc' := 15) rfl (hb hby dq4_3) rfl (flt (by decide : ¬ ((7 : Int32) < (0 : Int32)))).2.1 (by decide) (by decide) q) ?_
    refine own_tp (.int (7 : Int32)) 17 (fun _ q => XS.iload X0.here hx rfl (hb hby dq4_15) rfl q) ?_
    refine own_tp (.int (0 : Int32)) 18 (fun _ q => XS.iloadN X0.here hx rfl (hb hby dq4_17) rfl q) ?_
    refine own_d1 19 (fun _ q => XS.isub X0.here hx rfl (hb hby dq4_18) rfl q) ?_
    refine own_ls #[.val (.ref b1), .val (.int j0), .val (.int j1), .val (.int (0 : Int32)), .val (.int (7 : Int32)), .val (.int (7 : Int32))] 21 (fun _ q => XS.istore X0.here hx rfl (hb hby dq4_19) rfl (l' := #[.val (.ref b1), .val (.int j0), .val (.int j1), .val (.int (0 : Int32)), .val (.int (7 : Int32)), .val (.int (7 : Int32))]) rfl q) ?_
    refine own_tp (.int (7 : Int32)) 23 (fun _ q => XS.iload X0.here hx rfl (hb hby dq4_21) rfl q) ?_
    refine own_tp (.int (6 : Int32)) 25 (fun _ q => XS.bipush X0.here hx rfl (hb hby dq4_23) q) ?_
    refine own_d2 33 (fun _ q => XS.icmpYes X0.here hx rfl (pc0 := 25) (pc' := 33) rfl (hb hby dq4_25) rfl (flt (by decide : ¬ ((7 : Int32) < (6 : Int32)))).2.1 (by decide) (by decide) q) ?_
    refine own_tp (.int (64 : Int32)) 35 (fun _ q => XS.bipush X0.here hx rfl (hb hby dq4_33) q) ?_
    exact own_retN (t := .char) X0 hx hrt (hb hby dq4_35) (by simp) hlk (by decide) (by decide) e0 (⟨(64 : Int32), rfl, (own_sl0_7 _ _ _ _ _ _ _ _).symm, ⟨by decide, by decide⟩, N0, rfl⟩)
  ·
    refine own_tp (.int (7 : Int32)) 2 (fun _ q => XS.iload X0.here hx rfl (hb hby dq4_0) rfl q) ?_
    refine own_tp (.int (1 : Int32)) 3 (fun _ q => XS.iloadN X0.here hx rfl (hb hby dq4_2) rfl q) ?_
    refine own_d2 15 (fun _ q => XS.icmpYes X0.here hx rfl (pc0 := 3) (pc' := 15) rfl (hb hby dq4_3) rfl (flt (by decide : ¬ ((7 : Int32) < (1 : Int32)))).2.1 (by decide) (by decide) q) ?_
    refine own_tp (.int (7 : Int32)) 17 (fun _ q => XS.iload X0.here hx rfl (hb hby dq4_15) rfl q) ?_
    refine own_tp (.int (1 : Int32)) 18 (fun _ q => XS.iloadN X0.here hx rfl (hb hby dq4_17) rfl q) ?_
    refine own_t2 (.int (6 : Int32)) 19 (fun _ q => XS.isub X0.here hx rfl (hb hby dq4_18) rfl q) ?_
    refine own_ls #[.val (.ref b1), .val (.int j0), .val (.int j1), .val (.int (1 : Int32)), .val (.int (7 : Int32)), .val (.int (6 : Int32))] 21 (fun _ q => XS.istore X0.here hx rfl (hb hby dq4_19) rfl (l' := #[.val (.ref b1), .val (.int j0), .val (.int j1), .val (.int (1 : Int32)), .val (.int (7 : Int32)), .val (.int (6 : Int32))]) rfl q) ?_
    refine own_tp (.int (6 : Int32)) 23 (fun _ q => XS.iload X0.here hx rfl (hb hby dq4_21) rfl q) ?_
    refine own_tp (.int (6 : Int32)) 25 (fun _ q => XS.bipush X0.here hx rfl (hb hby dq4_23) q) ?_
    refine own_d2 33 (fun _ q => XS.icmpYes X0.here hx rfl (pc0 := 25) (pc' := 33) rfl (hb hby dq4_25) rfl (flt (by decide : ¬ ((6 : Int32) < (6 : Int32)))).2.1 (by decide) (by decide) q) ?_
    refine own_tp (.int (64 : Int32)) 35 (fun _ q => XS.bipush X0.here hx rfl (hb hby dq4_33) q) ?_
    exact own_retN (t := .char) X0 hx hrt (hb hby dq4_35) (by simp) hlk (by decide) (by decide) e0 (⟨(64 : Int32), rfl, (own_sl1_7 _ _ _ _ _ _ _ _).symm, ⟨by decide, by decide⟩, N0, rfl⟩)
  ·
    refine own_tp (.int (7 : Int32)) 2 (fun _ q => XS.iload X0.here hx rfl (hb hby dq4_0) rfl q) ?_
    refine own_tp (.int (2 : Int32)) 3 (fun _ q => XS.iloadN X0.here hx rfl (hb hby dq4_2) rfl q) ?_
    refine own_d2 15 (fun _ q => XS.icmpYes X0.here hx rfl (pc0 := 3) (pc' := 15) rfl (hb hby dq4_3) rfl (flt (by decide : ¬ ((7 : Int32) < (2 : Int32)))).2.1 (by decide) (by decide) q) ?_
    refine own_tp (.int (7 : Int32)) 17 (fun _ q => XS.iload X0.here hx rfl (hb hby dq4_15) rfl q) ?_
    refine own_tp (.int (2 : Int32)) 18 (fun _ q => XS.iloadN X0.here hx rfl (hb hby dq4_17) rfl q) ?_
    refine own_t2 (.int (5 : Int32)) 19 (fun _ q => XS.isub X0.here hx rfl (hb hby dq4_18) rfl q) ?_
    refine own_ls #[.val (.ref b1), .val (.int j0), .val (.int j1), .val (.int (2 : Int32)), .val (.int (7 : Int32)), .val (.int (5 : Int32))] 21 (fun _ q => XS.istore X0.here hx rfl (hb hby dq4_19) rfl (l' := #[.val (.ref b1), .val (.int j0), .val (.int j1), .val (.int (2 : Int32)), .val (.int (7 : Int32)), .val (.int (5 : Int32))]) rfl q) ?_
    refine own_tp (.int (5 : Int32)) 23 (fun _ q => XS.iload X0.here hx rfl (hb hby dq4_21) rfl q) ?_
    refine own_tp (.int (6 : Int32)) 25 (fun _ q => XS.bipush X0.here hx rfl (hb hby dq4_23) q) ?_
    refine own_d2 28 (fun _ q => XS.icmpNo X0.here hx rfl (hb hby dq4_25) rfl (tlt (by decide : (5 : Int32) < (6 : Int32))).2.1 q) ?_
    refine own_tp (.ref b1) 29 (fun _ q => XS.aloadN X0.here hx rfl (hb hby dq4_28) rfl rfl q) ?_
    refine own_tp (.int (5 : Int32)) 31 (fun _ q => XS.iload X0.here hx rfl (hb hby dq4_29) rfl q) ?_
    obtain ⟨cl51, Ar51, q51, S51, Nn51, H51, G51⟩ := (id V1)
    have hin51 : ¬ ((5 : Int32) < 0 ∨ cl51.slots.size ≤ ((5 : Int32)).toNatClampNeg) := inb_of S51 ⟨by decide, by decide⟩
    have hat51 : cl51.slots[((5 : Int32)).toNatClampNeg]? = some (.int c5) := H51.at hin51 rfl
    refine own_t2 (.int c5) 32 (fun _ q => X0.caload hx (j := (5 : Int32)) (v := (.int c5)) (by rw [e0]; exact Ar51.1) (State.isArrayOf_alike hZ.alike Ar51.2.1) Ar51.2.2 hin51 hat51 (g := (mkF m 31 #[.val (.ref b1), .val (.int j0), .val (.int j1), .val (.int (2 : Int32)), .val (.int (7 : Int32)), .val (.int (5 : Int32))] [(.int (5 : Int32)), (.ref b1)])) rfl rfl (hb hby dq4_31) _ q) ?_
    exact own_retN (t := .char) X0 hx hrt (hb hby dq4_32) (by simp) hlk (by decide) (by decide) e0 (⟨c5, by rw [own_narc (own_up bc5)], (own_sl2_7 _ _ _ _ _ _ _ _).symm, bc5, N0, rfl⟩)

def Q20 (r : Int32) (h0 : Heap) (n0 : Nat) (v : Option Value) (h : Heap) (L : List Loc) : Prop := v = some (.int (r)) ∧ Fr n0 L ∧ h = h0

set_option maxRecDepth 65536 in
set_option maxHeartbeats 40000000 in
theorem rm20 (l : Launch) (Z : State) (a0 : Array Value) (hw : ∀ d ∈ tables_1, d.before a0 Z = true) (ws : List Jvm.Cond) (kk : Int32) (h0 : Heap) (n0 : Nat) (hk : (kk = (0 : Int32) ∨ kk = (1 : Int32) ∨ kk = (2 : Int32))) (cs : List Int32) (hcs : cs.length = 8) (hp : ∀ c ∈ cs, ¬ c < 0 ∧ ¬ (255 : Int32) < c) (a1 b1 : Addr) (k1 : ClassId) (G1 : Int32) (P5 : ¬ G1 = (0 : Int32)) (O0 : Old Z n0 h0) (Sc : Sta Z Z.heap "java/lang/String" "COMPACT_STRINGS" "Z" (.int G1)) (G3 : Value) (rG3 : G3.isRef = true) (Sf : Sta Z Z.heap "jdk/internal/util/Preconditions" "SIOOBE_FORMATTER" "Ljava/util/function/BiFunction;" G3) (E1 : Exa Z h0 a1 "java/lang/String") (C1 : Fld Z h0 a1 "java/lang/String" "coder" "B" (.int (0 : Int32))) (L1 : Fld Z h0 a1 "java/lang/String" "value" "[B" (.ref b1)) (V1 : Arv Z h0 b1 k1 .byte (8 : Int32) ((cs.map (fun c => c.toInt8.toInt32)).map Value.int) (.int (0 : Int32))) :
    own_Met l (⟨"com/example/cited_experts/citedexperts/EmailAddress", "hostEnd", "(Ljava/lang/CharSequence;I)I"⟩ : MethodName) prog_10_method_4_code 8 (some .int) ws own_R_4_0_0_53 Z #[(.ref a1), (.int kk)] h0 (Q20 (own_he kk cs) h0 n0) := by
  refine own_enter #[.val (.ref a1), .val (.int kk), .unset, .unset, .unset, .unset, .unset, .unset] (plainFor_of_name pn_com_example_cited_experts_citedexperts_EmailAddress) (fun m => ef_RI_8 m a1 kk) ?_
  intro p e s m below meth c s₁ hx hby hml hown hnm hZ hrt hlk X0 e0
  have N0 := Fr.nil n0
  refine own_tp (.int (-1 : Int32)) 1 (fun _ q => XS.iconst X0.here hx rfl (hb hby dp10m4_0) q) ?_
  refine own_ls #[.val (.ref a1), .val (.int kk), .val (.int (-1 : Int32)), .unset, .unset, .unset, .unset, .unset] 2 (fun _ q => XS.istoreN X0.here hx rfl (hb hby dp10m4_1) rfl (l' := #[.val (.ref a1), .val (.int kk), .val (.int (-1 : Int32)), .unset, .unset, .unset, .unset, .unset]) rfl q) ?_
  refine own_tp (.int (0 : Int32)) 3 (fun _ q => XS.iconst X0.here hx rfl (hb hby dp10m4_2) q) ?_
  refine own_ls #[.val (.ref a1), .val (.int kk), .val (.int (-1 : Int32)), .val (.int (0 : Int32)), .unset, .unset, .unset, .unset] 4 (fun _ q => XS.istoreN X0.here hx rfl (hb hby dp10m4_3) rfl (l' := #[.val (.ref a1), .val (.int kk), .val (.int (-1 : Int32)), .val (.int (0 : Int32)), .unset, .unset, .unset, .unset]) rfl q) ?_
  refine own_tp (.int kk) 5 (fun _ q => XS.iloadN X0.here hx rfl (hb hby dp10m4_4) rfl q) ?_
  refine own_ls #[.val (.ref a1), .val (.int kk), .val (.int (-1 : Int32)), .val (.int (0 : Int32)), .val (.int kk), .unset, .unset, .unset] 7 (fun _ q => XS.istore X0.here hx rfl (hb hby dp10m4_5) rfl (l' := #[.val (.ref a1), .val (.int kk), .val (.int (-1 : Int32)), .val (.int (0 : Int32)), .val (.int kk), .unset, .unset, .unset]) rfl q) ?_
  refine own_tp (.int (1 : Int32)) 8 (fun _ q => XS.iconst X0.here hx rfl (hb hby dp10m4_7) q) ?_
  refine own_ls #[.val (.ref a1), .val (.int kk), .val (.int (-1 : Int32)), .val (.int (0 : Int32)), .val (.int kk), .val (.int (1 : Int32)), .unset, .unset] 10 (fun _ q => XS.istore X0.here hx rfl (hb hby dp10m4_8) rfl (l' := #[.val (.ref a1), .val (.int kk), .val (.int (-1 : Int32)), .val (.int (0 : Int32)), .val (.int kk), .val (.int (1 : Int32)), .unset, .unset]) rfl q) ?_
  refine own_tp (.int kk) 11 (fun _ q => XS.iloadN X0.here hx rfl (hb hby dp10m4_10) rfl q) ?_
  refine own_ls #[.val (.ref a1), .val (.int kk), .val (.int (-1 : Int32)), .val (.int (0 : Int32)), .val (.int kk), .val (.int (1 : Int32)), .val (.int kk), .unset] 13 (fun _ q => XS.istore X0.here hx rfl (hb hby dp10m4_11) rfl (l' := #[.val (.ref a1), .val (.int kk), .val (.int (-1 : Int32)), .val (.int (0 : Int32)), .val (.int kk), .val (.int (1 : Int32)), .val (.int kk), .unset]) rfl q) ?_
  have hln : ∀ d ∈ StrChars.Road.wordsLen, d.before a0 Z = true := fun d hd => hw d ((by decide +kernel : ∀ d ∈ StrChars.Road.wordsLen, d ∈ tables_1) d hd)
  have hch : ∀ d ∈ StrChars.Road.wordsChN, d.before a0 Z = true := fun d hd => hw d ((by decide +kernel : ∀ d ∈ StrChars.Road.wordsChN, d ∈ tables_1) d hd)
  have hcd : StrChars.Road.CodA cs 0 (8 : Int32) ((cs.map (fun c => c.toInt8.toInt32)).map Value.int) := StrChars.Road.codOf (n := 8) hcs (fun x hx => (hp x hx).2)
  have hbd : ∀ x ∈ cs, ¬ x < 0 ∧ ¬ (65535 : Int32) < x := own_upl _ hp
  have loop : ∀ (f i : Nat) (en dots ls lo : Int32) (sl : Slot) (TL : State) (lL : List Loc), i + f = cs.length → One sl → Stand p l e own_R_4_0_0_53 s m #[(.ref a1), (.int kk)] below meth c TL lL 0 0 → Fr n0 lL → TL.heap = h0 → own_Goes p e below (own_FN s (Q20 (own_run cs f i en dots ls lo) h0 n0) own_R_4_0_0_53.cells own_R_4_0_0_53.slots) (TL.setTop (mkF m 13 #[.val (.ref a1), .val (.int kk), .val (.int en), .val (.int dots), .val (.int ls), .val (.int lo), .val (.int (Int32.ofNat i)), sl] [])) := by
    intro f
    induction f with
    | zero =>
      intro i en dots ls lo sl TL lL hf hsl XL NL eL
      refine own_tp (.int (Int32.ofNat i)) 15 (fun _ q => XS.iload XL.here hx rfl (hb hby dp10m4_13) rfl q) ?_
      refine own_tp (.ref a1) 16 (fun _ q => XS.aloadN XL.here hx rfl (hb hby dp10m4_15) rfl rfl q) ?_
      obtain ⟨cq51, kq51, q51a, q51b, q51c⟩ := isOf hZ eL E1
      obtain ⟨_, _, ⟨T51, L51, k51, n51⟩, -, X51, ⟨Lc51, hQ51, l51, y51, z51⟩, st51⟩ := XL.interfaceBack hx (xi := (⟨"java/lang/CharSequence", "length", "()I"⟩ : MethodName)) (y := (⟨"java/lang/String", "length", "()I"⟩ : MethodName)) hown (mvT hZ (own_w hw 44 rfl)) (mvT hZ (own_w hw 45 rfl)) (mvT hZ (own_w hw 46 rfl)) (mvT hZ (own_w hw 47 rfl)) (mvT hZ (own_w hw 48 rfl)) (mvT hZ (own_w hw 49 rfl)) (mvT hZ (own_w hw 50 rfl)) (mvT hZ (own_w hw 51 rfl)) (by decide) (StrChars.Road.lenW (W := 1) hZ hln (kI := 4) (own_w hw 12 rfl) E1 L1 C1 V1 hcd hbd (Sc.ext O0.2) P5 (by rw [hcs]; decide) (by decide) (by decide)) q51a q51b q51c (g := (mkF m 16 #[.val (.ref a1), .val (.int kk), .val (.int en), .val (.int dots), .val (.int ls), .val (.int lo), .val (.int (Int32.ofNat i)), sl] [(.ref a1), (.int (Int32.ofNat i))])) rfl (by rw [hml]; rfl) (Steps.refl _) (argsL := []) (rest := [(.int (Int32.ofNat i))]) (lenOf pd2 rfl) rfl (by show 2 * 0 + _ ≤ _; exact Nat.le_of_eq rfl) (hb hby dp10m4_16) (fun _ _ => ⟨rfl, eL, (by decide : 0 + 0 ≤ _), (by decide : 0 + 0 ≤ _)⟩)
      dsimp only [Pt.U, Pt.locs, Pt.cells, Pt.slots] at X51 l51 y51 z51 st51 hQ51
      subst l51 y51 z51
      obtain ⟨rfl, rfl, eq51⟩ := hQ51
      have N51 := Fr.app NL (Fr.nil n0)
      refine own_csR [(.int (Int32.ofNat cs.length)), (.int (Int32.ofNat i))] 21 st51 ?_
      refine own_d2 122 (fun _ q => XS.icmpYes X51.here hx rfl (pc0 := 21) (pc' := 122) rfl (hb hby dp10m4_21) rfl (flt (fun q => absurd ((own_cmp (by rw [hcs]; decide) (by omega)).mp q) (by omega))).2.1 (by decide) (by decide) q) ?_
      refine own_tp (.int en) 123 (fun _ q => XS.iloadN X51.here hx rfl (hb hby dp10m4_122) rfl q) ?_
      have hr : (own_run cs 0 i en dots ls lo) = en := by simp only [own_run, own_en, ↓reduceIte]
      exact own_retI X51 hx hrt (hb hby dp10m4_123) hlk (by decide) (by decide) eq51 (⟨by rw [hr], N51, rfl⟩)
    | succ f ih =>
      intro i en dots ls lo sl TL lL hf hsl XL NL eL
      refine own_tp (.int (Int32.ofNat i)) 15 (fun _ q => XS.iload XL.here hx rfl (hb hby dp10m4_13) rfl q) ?_
      refine own_tp (.ref a1) 16 (fun _ q => XS.aloadN XL.here hx rfl (hb hby dp10m4_15) rfl rfl q) ?_
      obtain ⟨cq52, kq52, q52a, q52b, q52c⟩ := isOf hZ eL E1
      obtain ⟨_, _, ⟨T52, L52, k52, n52⟩, -, X52, ⟨Lc52, hQ52, l52, y52, z52⟩, st52⟩ := XL.interfaceBack hx (xi := (⟨"java/lang/CharSequence", "length", "()I"⟩ : MethodName)) (y := (⟨"java/lang/String", "length", "()I"⟩ : MethodName)) hown (mvT hZ (own_w hw 44 rfl)) (mvT hZ (own_w hw 45 rfl)) (mvT hZ (own_w hw 46 rfl)) (mvT hZ (own_w hw 47 rfl)) (mvT hZ (own_w hw 48 rfl)) (mvT hZ (own_w hw 49 rfl)) (mvT hZ (own_w hw 50 rfl)) (mvT hZ (own_w hw 51 rfl)) (by decide) (StrChars.Road.lenW (W := 1) hZ hln (kI := 4) (own_w hw 12 rfl) E1 L1 C1 V1 hcd hbd (Sc.ext O0.2) P5 (by rw [hcs]; decide) (by decide) (by decide)) q52a q52b q52c (g := (mkF m 16 #[.val (.ref a1), .val (.int kk), .val (.int en), .val (.int dots), .val (.int ls), .val (.int lo), .val (.int (Int32.ofNat i)), sl] [(.ref a1), (.int (Int32.ofNat i))])) rfl (by rw [hml]; rfl) (Steps.refl _) (argsL := []) (rest := [(.int (Int32.ofNat i))]) (lenOf pd2 rfl) rfl (by show 2 * 0 + _ ≤ _; exact Nat.le_of_eq rfl) (hb hby dp10m4_16) (fun _ _ => ⟨rfl, eL, (by decide : 0 + 0 ≤ _), (by decide : 0 + 0 ≤ _)⟩)
      dsimp only [Pt.U, Pt.locs, Pt.cells, Pt.slots] at X52 l52 y52 z52 st52 hQ52
      subst l52 y52 z52
      obtain ⟨rfl, rfl, eq52⟩ := hQ52
      have N52 := Fr.app NL (Fr.nil n0)
      refine own_csR [(.int (Int32.ofNat cs.length)), (.int (Int32.ofNat i))] 21 st52 ?_
      refine own_d2 24 (fun _ q => XS.icmpNo X52.here hx rfl (hb hby dp10m4_21) rfl (tlt ((own_cmp (by rw [hcs]; decide) (by omega)).mpr (by omega))).2.1 q) ?_
      refine own_tp (.ref a1) 25 (fun _ q => XS.aloadN X52.here hx rfl (hb hby dp10m4_24) rfl rfl q) ?_
      refine own_tp (.int (Int32.ofNat i)) 27 (fun _ q => XS.iload X52.here hx rfl (hb hby dp10m4_25) rfl q) ?_
      obtain ⟨cq53, kq53, q53a, q53b, q53c⟩ := isOf hZ eq52 E1
      obtain ⟨_, _, ⟨T53, L53, k53, n53⟩, -, X53, ⟨Lc53, hQ53, l53, y53, z53⟩, st53⟩ := X52.interfaceBack hx (xi := (⟨"java/lang/CharSequence", "charAt", "(I)C"⟩ : MethodName)) (y := (⟨"java/lang/String", "charAt", "(I)C"⟩ : MethodName)) hown (mvT hZ (own_w hw 58 rfl)) (mvT hZ (own_w hw 59 rfl)) (mvT hZ (own_w hw 60 rfl)) (mvT hZ (own_w hw 61 rfl)) (mvT hZ (own_w hw 62 rfl)) (mvT hZ (own_w hw 63 rfl)) (mvT hZ (own_w hw 64 rfl)) (mvT hZ (own_w hw 51 rfl)) (by decide) (StrChars.Road.chN (W := 0) hZ hch (kI := 4) (own_w hw 12 rfl) E1 L1 C1 V1 hcd hbd (Sc.ext O0.2) P5 (Sf.ext O0.2) rG3 (by rw [hcs]; decide) (i := i) (by omega) (j := Int32.ofNat i) rfl (by decide) (by decide)) q53a q53b q53c (g := (mkF m 27 #[.val (.ref a1), .val (.int kk), .val (.int en), .val (.int dots), .val (.int ls), .val (.int lo), .val (.int (Int32.ofNat i)), sl] [(.int (Int32.ofNat i)), (.ref a1)])) rfl (by rw [hml]; rfl) (Steps.refl _) (argsL := [(.int (Int32.ofNat i))]) (rest := []) (lenOf pd3 rfl) rfl (by show 2 * 0 + _ ≤ _; exact Nat.le_of_eq rfl) (hb hby dp10m4_27) (fun _ _ => ⟨rfl, eq52, (by decide : 0 + 0 ≤ _), (by decide : 0 + 0 ≤ _)⟩)
      dsimp only [Pt.U, Pt.locs, Pt.cells, Pt.slots] at X53 l53 y53 z53 st53 hQ53
      subst l53 y53 z53
      obtain ⟨rfl, rfl, eq53⟩ := hQ53
      have N53 := Fr.app N52 (Fr.nil n0)
      refine own_csR [(.int (cs.getD i 0))] 32 st53 ?_
      refine own_ls #[.val (.ref a1), .val (.int kk), .val (.int en), .val (.int dots), .val (.int ls), .val (.int lo), .val (.int (Int32.ofNat i)), .val (.int (cs.getD i 0))] 34 (fun _ q => XS.istoreS X53.here hx rfl (hb hby dp10m4_32) rfl rfl hsl q) ?_
      refine own_tp (.int (cs.getD i 0)) 36 (fun _ q => XS.iload X53.here hx rfl (hb hby dp10m4_34) rfl q) ?_
      refine own_tp (.int (46 : Int32)) 38 (fun _ q => XS.bipush X53.here hx rfl (hb hby dp10m4_36) q) ?_
      by_cases c54 : (cs.getD i 0) = (46 : Int32)
      ·
        refine own_d2 41 (fun _ q => XS.icmpNo X53.here hx rfl (hb hby dp10m4_38) rfl (teq c54).2 q) ?_
        refine own_tp (.int (Int32.ofNat i)) 43 (fun _ q => XS.iload X53.here hx rfl (hb hby dp10m4_41) rfl q) ?_
        refine own_tp (.int ls) 45 (fun _ q => XS.iload X53.here hx rfl (hb hby dp10m4_43) rfl q) ?_
        by_cases c55 : (Int32.ofNat i) = ls
        ·
          refine own_d2 48 (fun _ q => XS.icmpNo X53.here hx rfl (hb hby dp10m4_45) rfl (teq c55).2 q) ?_
          refine own_d0 122 (fun _ q => XS.goto X53.here hx rfl (pc0 := 48) (pc' := 122) rfl (hb hby dp10m4_48) (by decide) (by decide) q) ?_
          refine own_tp (.int en) 123 (fun _ q => XS.iloadN X53.here hx rfl (hb hby dp10m4_122) rfl q) ?_
          have hr : (own_run cs (f + 1) i en dots ls lo) = en := by simp only [own_run, own_en, if_pos c54, if_pos c55, ↓reduceIte]
          exact own_retI X53 hx hrt (hb hby dp10m4_123) hlk (by decide) (by decide) eq53 (⟨by rw [hr], N53, rfl⟩)
        ·
          refine own_d2 51 (fun _ q => XS.icmpYes X53.here hx rfl (pc0 := 45) (pc' := 51) rfl (hb hby dp10m4_45) rfl (feq c55).2 (by decide) (by decide) q) ?_
          refine own_li #[.val (.ref a1), .val (.int kk), .val (.int en), .val (.int (dots + (1 : Int32))), .val (.int ls), .val (.int lo), .val (.int (Int32.ofNat i)), .val (.int (cs.getD i 0))] 54 (fun _ q => XS.iinc X53.here hx rfl (hb hby dp10m4_51) rfl (l' := #[.val (.ref a1), .val (.int kk), .val (.int en), .val (.int (dots + (1 : Int32))), .val (.int ls), .val (.int lo), .val (.int (Int32.ofNat i)), .val (.int (cs.getD i 0))]) rfl q) ?_
          refine own_tp (.int (Int32.ofNat i)) 56 (fun _ q => XS.iload X53.here hx rfl (hb hby dp10m4_54) rfl q) ?_
          refine own_tp (.int (1 : Int32)) 57 (fun _ q => XS.iconst X53.here hx rfl (hb hby dp10m4_56) q) ?_
          refine own_t2 (.int ((Int32.ofNat i) + (1 : Int32))) 58 (fun _ q => XS.iadd X53.here hx rfl (hb hby dp10m4_57) rfl q) ?_
          refine own_ls #[.val (.ref a1), .val (.int kk), .val (.int en), .val (.int (dots + (1 : Int32))), .val (.int ((Int32.ofNat i) + (1 : Int32))), .val (.int lo), .val (.int (Int32.ofNat i)), .val (.int (cs.getD i 0))] 60 (fun _ q => XS.istore X53.here hx rfl (hb hby dp10m4_58) rfl (l' := #[.val (.ref a1), .val (.int kk), .val (.int en), .val (.int (dots + (1 : Int32))), .val (.int ((Int32.ofNat i) + (1 : Int32))), .val (.int lo), .val (.int (Int32.ofNat i)), .val (.int (cs.getD i 0))]) rfl q) ?_
          refine own_tp (.int (1 : Int32)) 61 (fun _ q => XS.iconst X53.here hx rfl (hb hby dp10m4_60) q) ?_
          refine own_ls #[.val (.ref a1), .val (.int kk), .val (.int en), .val (.int (dots + (1 : Int32))), .val (.int ((Int32.ofNat i) + (1 : Int32))), .val (.int (1 : Int32)), .val (.int (Int32.ofNat i)), .val (.int (cs.getD i 0))] 63 (fun _ q => XS.istore X53.here hx rfl (hb hby dp10m4_61) rfl (l' := #[.val (.ref a1), .val (.int kk), .val (.int en), .val (.int (dots + (1 : Int32))), .val (.int ((Int32.ofNat i) + (1 : Int32))), .val (.int (1 : Int32)), .val (.int (Int32.ofNat i)), .val (.int (cs.getD i 0))]) rfl q) ?_
          refine own_d0 116 (fun _ q => XS.goto X53.here hx rfl (pc0 := 63) (pc' := 116) rfl (hb hby dp10m4_63) (by decide) (by decide) q) ?_
          refine own_li #[.val (.ref a1), .val (.int kk), .val (.int en), .val (.int (dots + (1 : Int32))), .val (.int ((Int32.ofNat i) + (1 : Int32))), .val (.int (1 : Int32)), .val (.int ((Int32.ofNat i) + (1 : Int32))), .val (.int (cs.getD i 0))] 119 (fun _ q => XS.iinc X53.here hx rfl (hb hby dp10m4_116) rfl (l' := #[.val (.ref a1), .val (.int kk), .val (.int en), .val (.int (dots + (1 : Int32))), .val (.int ((Int32.ofNat i) + (1 : Int32))), .val (.int (1 : Int32)), .val (.int ((Int32.ofNat i) + (1 : Int32))), .val (.int (cs.getD i 0))]) rfl q) ?_
          refine own_d0 13 (fun _ q => XS.goto X53.here hx rfl (pc0 := 119) (pc' := 13) rfl (hb hby dp10m4_119) (by decide) (by decide) q) ?_
          have hr : (own_run cs (f + 1) i en dots ls lo) = (own_run cs f (i + 1) en (dots + (1 : Int32)) (Int32.ofNat (i + 1)) (1 : Int32)) := by simp only [own_run, own_en, if_pos c54, if_neg c55, ↓reduceIte]
          rw [own_succ i, hr]
          exact ih (i + 1) en (dots + (1 : Int32)) (Int32.ofNat (i + 1)) (1 : Int32) _ T53 _ (by omega) (One.val rfl) X53 N53 eq53
      ·
        refine own_d2 66 (fun _ q => XS.icmpYes X53.here hx rfl (pc0 := 38) (pc' := 66) rfl (hb hby dp10m4_38) rfl (feq c54).2 (by decide) (by decide) q) ?_
        refine own_tp (.int (cs.getD i 0)) 68 (fun _ q => XS.iload X53.here hx rfl (hb hby dp10m4_66) rfl q) ?_
        obtain ⟨_, _, ⟨T56, L56, k56, n56⟩, -, X56, ⟨Lc56, hQ56, l56, y56, z56⟩, st56⟩ := Jvm.LawKit.callS X53 hx (y := (⟨"com/example/cited_experts/citedexperts/EmailAddress", "isAsciiLetterOrDigit", "(I)Z"⟩ : MethodName)) hown (mvT hZ (own_w hw 89 rfl)) (mvT hZ (own_w hw 90 rfl)) (mvT hZ (own_w hw 42 rfl)) (mvT hZ (own_w hw 91 rfl)) (by decide) (backOf (W := 0) (rm2 l Z a0 hw [] (cs.getD i 0) h0 n0 ) hZ (own_w hw 91 rfl) (own_w hw 42 rfl) (by decide) (by decide)) (g := (mkF m 68 #[.val (.ref a1), .val (.int kk), .val (.int en), .val (.int dots), .val (.int ls), .val (.int lo), .val (.int (Int32.ofNat i)), .val (.int (cs.getD i 0))] [(.int (cs.getD i 0))])) rfl (by rw [hml]; rfl) (argsL := [(.int (cs.getD i 0))]) (rest := []) (lenOf pd0 rfl) rfl (by show 2 * 0 + _ ≤ _; exact Nat.le_of_eq rfl) (hb hby dp10m4_68) (fun _ _ => ⟨rfl, eq53, (by decide : 0 + 0 ≤ _), (by decide : 0 + 0 ≤ _)⟩)
        dsimp only [Pt.U, Pt.locs, Pt.cells, Pt.slots] at X56 l56 y56 z56 st56 hQ56
        subst l56 y56 z56
        obtain ⟨rfl, Nq56, eq56⟩ := hQ56
        have N56 := Fr.app N53 Nq56
        refine own_t1 (.int (own_ld (cs.getD i 0))) 71 st56 ?_
        by_cases c57 : (own_ld (cs.getD i 0)) = (0 : Int32)
        ·
          refine own_d1 74 (fun _ q => XS.ifNo X56.here hx rfl (hb hby dp10m4_71) rfl ((if0 _ _).trans (teq c57).2) q) ?_
          refine own_tp (.int (cs.getD i 0)) 76 (fun _ q => XS.iload X56.here hx rfl (hb hby dp10m4_74) rfl q) ?_
          refine own_tp (.int (45 : Int32)) 78 (fun _ q => XS.bipush X56.here hx rfl (hb hby dp10m4_76) q) ?_
          by_cases c58 : (cs.getD i 0) = (45 : Int32)
          ·
            refine own_d2 81 (fun _ q => XS.icmpNo X56.here hx rfl (hb hby dp10m4_78) rfl (teq c58).2 q) ?_
            refine own_tp (.int lo) 83 (fun _ q => XS.iload X56.here hx rfl (hb hby dp10m4_81) rfl q) ?_
            refine own_tp (.int (cs.getD i 0)) 85 (fun _ q => XS.iload X56.here hx rfl (hb hby dp10m4_83) rfl q) ?_
            obtain ⟨_, _, ⟨T59, L59, k59, n59⟩, -, X59, ⟨Lc59, hQ59, l59, y59, z59⟩, st59⟩ := Jvm.LawKit.callS X56 hx (y := (⟨"com/example/cited_experts/citedexperts/EmailAddress", "isAsciiLetter", "(I)Z"⟩ : MethodName)) hown (mvT hZ (own_w hw 92 rfl)) (mvT hZ (own_w hw 93 rfl)) (mvT hZ (own_w hw 42 rfl)) (mvT hZ (own_w hw 94 rfl)) (by decide) (backOf (W := 1) (rm1 l Z a0 hw [] (cs.getD i 0) h0 n0 ) hZ (own_w hw 94 rfl) (own_w hw 42 rfl) (by decide) (by decide)) (g := (mkF m 85 #[.val (.ref a1), .val (.int kk), .val (.int en), .val (.int dots), .val (.int ls), .val (.int lo), .val (.int (Int32.ofNat i)), .val (.int (cs.getD i 0))] [(.int (cs.getD i 0)), (.int lo)])) rfl (by rw [hml]; rfl) (argsL := [(.int (cs.getD i 0))]) (rest := [(.int lo)]) (lenOf pd0 rfl) rfl (by show 2 * 0 + _ ≤ _; exact Nat.le_of_eq rfl) (hb hby dp10m4_85) (fun _ _ => ⟨rfl, eq56, (by decide : 0 + 0 ≤ _), (by decide : 0 + 0 ≤ _)⟩)
            dsimp only [Pt.U, Pt.locs, Pt.cells, Pt.slots] at X59 l59 y59 z59 st59 hQ59
            subst l59 y59 z59
            obtain ⟨rfl, Nq59, eq59⟩ := hQ59
            have N59 := Fr.app N56 Nq59
            refine own_t1 (.int (own_let (cs.getD i 0))) 88 st59 ?_
            refine own_t2 (.int (lo &&& (own_let (cs.getD i 0)))) 89 (fun _ q => XS.iand X59.here hx rfl (hb hby dp10m4_88) rfl q) ?_
            refine own_ls #[.val (.ref a1), .val (.int kk), .val (.int en), .val (.int dots), .val (.int ls), .val (.int (lo &&& (own_let (cs.getD i 0)))), .val (.int (Int32.ofNat i)), .val (.int (cs.getD i 0))] 91 (fun _ q => XS.istore X59.here hx rfl (hb hby dp10m4_89) rfl (l' := #[.val (.ref a1), .val (.int kk), .val (.int en), .val (.int dots), .val (.int ls), .val (.int (lo &&& (own_let (cs.getD i 0)))), .val (.int (Int32.ofNat i)), .val (.int (cs.getD i 0))]) rfl q) ?_
            refine own_tp (.int dots) 92 (fun _ q => XS.iloadN X59.here hx rfl (hb hby dp10m4_91) rfl q) ?_
            by_cases c60 : (0 : Int32) < dots
            ·
              refine own_d1 95 (fun _ q => XS.ifNo X59.here hx rfl (hb hby dp10m4_92) rfl ((if0 _ _).trans (tlt c60).2.2.2) q) ?_
              refine own_tp (.int (lo &&& (own_let (cs.getD i 0)))) 97 (fun _ q => XS.iload X59.here hx rfl (hb hby dp10m4_95) rfl q) ?_
              by_cases c61 : (lo &&& (own_let (cs.getD i 0))) = (0 : Int32)
              ·
                refine own_d1 116 (fun _ q => XS.ifYes X59.here hx rfl (pc0 := 97) (pc' := 116) rfl (hb hby dp10m4_97) rfl ((if0 _ _).trans (teq c61).1) (by decide) (by decide) q) ?_
                refine own_li #[.val (.ref a1), .val (.int kk), .val (.int en), .val (.int dots), .val (.int ls), .val (.int (lo &&& (own_let (cs.getD i 0)))), .val (.int ((Int32.ofNat i) + (1 : Int32))), .val (.int (cs.getD i 0))] 119 (fun _ q => XS.iinc X59.here hx rfl (hb hby dp10m4_116) rfl (l' := #[.val (.ref a1), .val (.int kk), .val (.int en), .val (.int dots), .val (.int ls), .val (.int (lo &&& (own_let (cs.getD i 0)))), .val (.int ((Int32.ofNat i) + (1 : Int32))), .val (.int (cs.getD i 0))]) rfl q) ?_
                refine own_d0 13 (fun _ q => XS.goto X59.here hx rfl (pc0 := 119) (pc' := 13) rfl (hb hby dp10m4_119) (by decide) (by decide) q) ?_
                have hr : (own_run cs (f + 1) i en dots ls lo) = (own_run cs f (i + 1) en dots ls (lo &&& (own_let (cs.getD i 0)))) := by simp only [own_run, own_en, if_neg c54, if_pos c57, if_pos c58, if_pos c60, if_pos c61, ↓reduceIte]
                rw [own_succ i, hr]
                exact ih (i + 1) en dots ls (lo &&& (own_let (cs.getD i 0))) _ T59 _ (by omega) (One.val rfl) X59 N59 eq59
              ·
                refine own_d1 100 (fun _ q => XS.ifNo X59.here hx rfl (hb hby dp10m4_97) rfl ((if0 _ _).trans (feq c61).1) q) ?_
                refine own_tp (.int (Int32.ofNat i)) 102 (fun _ q => XS.iload X59.here hx rfl (hb hby dp10m4_100) rfl q) ?_
                refine own_tp (.int (1 : Int32)) 103 (fun _ q => XS.iconst X59.here hx rfl (hb hby dp10m4_102) q) ?_
                refine own_t2 (.int ((Int32.ofNat i) + (1 : Int32))) 104 (fun _ q => XS.iadd X59.here hx rfl (hb hby dp10m4_103) rfl q) ?_
                refine own_tp (.int ls) 106 (fun _ q => XS.iload X59.here hx rfl (hb hby dp10m4_104) rfl q) ?_
                refine own_t2 (.int (((Int32.ofNat i) + (1 : Int32)) - ls)) 107 (fun _ q => XS.isub X59.here hx rfl (hb hby dp10m4_106) rfl q) ?_
                refine own_tp (.int (2 : Int32)) 108 (fun _ q => XS.iconst X59.here hx rfl (hb hby dp10m4_107) q) ?_
                by_cases c62 : (((Int32.ofNat i) + (1 : Int32)) - ls) < (2 : Int32)
                ·
                  refine own_d2 116 (fun _ q => XS.icmpYes X59.here hx rfl (pc0 := 108) (pc' := 116) rfl (hb hby dp10m4_108) rfl (tlt c62).1 (by decide) (by decide) q) ?_
                  refine own_li #[.val (.ref a1), .val (.int kk), .val (.int en), .val (.int dots), .val (.int ls), .val (.int (lo &&& (own_let (cs.getD i 0)))), .val (.int ((Int32.ofNat i) + (1 : Int32))), .val (.int (cs.getD i 0))] 119 (fun _ q => XS.iinc X59.here hx rfl (hb hby dp10m4_116) rfl (l' := #[.val (.ref a1), .val (.int kk), .val (.int en), .val (.int dots), .val (.int ls), .val (.int (lo &&& (own_let (cs.getD i 0)))), .val (.int ((Int32.ofNat i) + (1 : Int32))), .val (.int (cs.getD i 0))]) rfl q) ?_
                  refine own_d0 13 (fun _ q => XS.goto X59.here hx rfl (pc0 := 119) (pc' := 13) rfl (hb hby dp10m4_119) (by decide) (by decide) q) ?_
                  have hr : (own_run cs (f + 1) i en dots ls lo) = (own_run cs f (i + 1) en dots ls (lo &&& (own_let (cs.getD i 0)))) := by simp only [own_run, own_en, if_neg c54, if_pos c57, if_pos c58, if_pos c60, if_neg c61, if_pos c62, ↓reduceIte]
                  rw [own_succ i, hr]
                  exact ih (i + 1) en dots ls (lo &&& (own_let (cs.getD i 0))) _ T59 _ (by omega) (One.val rfl) X59 N59 eq59
                ·
                  refine own_d2 111 (fun _ q => XS.icmpNo X59.here hx rfl (hb hby dp10m4_108) rfl (flt c62).1 q) ?_
                  refine own_tp (.int (Int32.ofNat i)) 113 (fun _ q => XS.iload X59.here hx rfl (hb hby dp10m4_111) rfl q) ?_
                  refine own_tp (.int (1 : Int32)) 114 (fun _ q => XS.iconst X59.here hx rfl (hb hby dp10m4_113) q) ?_
                  refine own_t2 (.int ((Int32.ofNat i) + (1 : Int32))) 115 (fun _ q => XS.iadd X59.here hx rfl (hb hby dp10m4_114) rfl q) ?_
                  refine own_ls #[.val (.ref a1), .val (.int kk), .val (.int ((Int32.ofNat i) + (1 : Int32))), .val (.int dots), .val (.int ls), .val (.int (lo &&& (own_let (cs.getD i 0)))), .val (.int (Int32.ofNat i)), .val (.int (cs.getD i 0))] 116 (fun _ q => XS.istoreN X59.here hx rfl (hb hby dp10m4_115) rfl (l' := #[.val (.ref a1), .val (.int kk), .val (.int ((Int32.ofNat i) + (1 : Int32))), .val (.int dots), .val (.int ls), .val (.int (lo &&& (own_let (cs.getD i 0)))), .val (.int (Int32.ofNat i)), .val (.int (cs.getD i 0))]) rfl q) ?_
                  refine own_li #[.val (.ref a1), .val (.int kk), .val (.int ((Int32.ofNat i) + (1 : Int32))), .val (.int dots), .val (.int ls), .val (.int (lo &&& (own_let (cs.getD i 0)))), .val (.int ((Int32.ofNat i) + (1 : Int32))), .val (.int (cs.getD i 0))] 119 (fun _ q => XS.iinc X59.here hx rfl (hb hby dp10m4_116) rfl (l' := #[.val (.ref a1), .val (.int kk), .val (.int ((Int32.ofNat i) + (1 : Int32))), .val (.int dots), .val (.int ls), .val (.int (lo &&& (own_let (cs.getD i 0)))), .val (.int ((Int32.ofNat i) + (1 : Int32))), .val (.int (cs.getD i 0))]) rfl q) ?_
                  refine own_d0 13 (fun _ q => XS.goto X59.here hx rfl (pc0 := 119) (pc' := 13) rfl (hb hby dp10m4_119) (by decide) (by decide) q) ?_
                  have hr : (own_run cs (f + 1) i en dots ls lo) = (own_run cs f (i + 1) (Int32.ofNat (i + 1)) dots ls (lo &&& (own_let (cs.getD i 0)))) := by simp only [own_run, own_en, if_neg c54, if_pos c57, if_pos c58, if_pos c60, if_neg c61, if_neg c62, ↓reduceIte]
                  rw [own_succ i, hr]
                  exact ih (i + 1) (Int32.ofNat (i + 1)) dots ls (lo &&& (own_let (cs.getD i 0))) _ T59 _ (by omega) (One.val rfl) X59 N59 eq59
            ·
              refine own_d1 116 (fun _ q => XS.ifYes X59.here hx rfl (pc0 := 92) (pc' := 116) rfl (hb hby dp10m4_92) rfl ((if0 _ _).trans (flt c60).2.2.2) (by decide) (by decide) q) ?_
              refine own_li #[.val (.ref a1), .val (.int kk), .val (.int en), .val (.int dots), .val (.int ls), .val (.int (lo &&& (own_let (cs.getD i 0)))), .val (.int ((Int32.ofNat i) + (1 : Int32))), .val (.int (cs.getD i 0))] 119 (fun _ q => XS.iinc X59.here hx rfl (hb hby dp10m4_116) rfl (l' := #[.val (.ref a1), .val (.int kk), .val (.int en), .val (.int dots), .val (.int ls), .val (.int (lo &&& (own_let (cs.getD i 0)))), .val (.int ((Int32.ofNat i) + (1 : Int32))), .val (.int (cs.getD i 0))]) rfl q) ?_
              refine own_d0 13 (fun _ q => XS.goto X59.here hx rfl (pc0 := 119) (pc' := 13) rfl (hb hby dp10m4_119) (by decide) (by decide) q) ?_
              have hr : (own_run cs (f + 1) i en dots ls lo) = (own_run cs f (i + 1) en dots ls (lo &&& (own_let (cs.getD i 0)))) := by simp only [own_run, own_en, if_neg c54, if_pos c57, if_pos c58, if_neg c60, ↓reduceIte]
              rw [own_succ i, hr]
              exact ih (i + 1) en dots ls (lo &&& (own_let (cs.getD i 0))) _ T59 _ (by omega) (One.val rfl) X59 N59 eq59
          ·
            refine own_d2 122 (fun _ q => XS.icmpYes X56.here hx rfl (pc0 := 78) (pc' := 122) rfl (hb hby dp10m4_78) rfl (feq c58).2 (by decide) (by decide) q) ?_
            refine own_tp (.int en) 123 (fun _ q => XS.iloadN X56.here hx rfl (hb hby dp10m4_122) rfl q) ?_
            have hr : (own_run cs (f + 1) i en dots ls lo) = en := by simp only [own_run, own_en, if_neg c54, if_pos c57, if_neg c58, ↓reduceIte]
            exact own_retI X56 hx hrt (hb hby dp10m4_123) hlk (by decide) (by decide) eq56 (⟨by rw [hr], N56, rfl⟩)
        ·
          refine own_d1 81 (fun _ q => XS.ifYes X56.here hx rfl (pc0 := 71) (pc' := 81) rfl (hb hby dp10m4_71) rfl ((if0 _ _).trans (feq c57).2) (by decide) (by decide) q) ?_
          refine own_tp (.int lo) 83 (fun _ q => XS.iload X56.here hx rfl (hb hby dp10m4_81) rfl q) ?_
          refine own_tp (.int (cs.getD i 0)) 85 (fun _ q => XS.iload X56.here hx rfl (hb hby dp10m4_83) rfl q) ?_
          obtain ⟨_, _, ⟨T63, L63, k63, n63⟩, -, X63, ⟨Lc63, hQ63, l63, y63, z63⟩, st63⟩ := Jvm.LawKit.callS X56 hx (y := (⟨"com/example/cited_experts/citedexperts/EmailAddress", "isAsciiLetter", "(I)Z"⟩ : MethodName)) hown (mvT hZ (own_w hw 92 rfl)) (mvT hZ (own_w hw 93 rfl)) (mvT hZ (own_w hw 42 rfl)) (mvT hZ (own_w hw 94 rfl)) (by decide) (backOf (W := 1) (rm1 l Z a0 hw [] (cs.getD i 0) h0 n0 ) hZ (own_w hw 94 rfl) (own_w hw 42 rfl) (by decide) (by decide)) (g := (mkF m 85 #[.val (.ref a1), .val (.int kk), .val (.int en), .val (.int dots), .val (.int ls), .val (.int lo), .val (.int (Int32.ofNat i)), .val (.int (cs.getD i 0))] [(.int (cs.getD i 0)), (.int lo)])) rfl (by rw [hml]; rfl) (argsL := [(.int (cs.getD i 0))]) (rest := [(.int lo)]) (lenOf pd0 rfl) rfl (by show 2 * 0 + _ ≤ _; exact Nat.le_of_eq rfl) (hb hby dp10m4_85) (fun _ _ => ⟨rfl, eq56, (by decide : 0 + 0 ≤ _), (by decide : 0 + 0 ≤ _)⟩)
          dsimp only [Pt.U, Pt.locs, Pt.cells, Pt.slots] at X63 l63 y63 z63 st63 hQ63
          subst l63 y63 z63
          obtain ⟨rfl, Nq63, eq63⟩ := hQ63
          have N63 := Fr.app N56 Nq63
          refine own_t1 (.int (own_let (cs.getD i 0))) 88 st63 ?_
          refine own_t2 (.int (lo &&& (own_let (cs.getD i 0)))) 89 (fun _ q => XS.iand X63.here hx rfl (hb hby dp10m4_88) rfl q) ?_
          refine own_ls #[.val (.ref a1), .val (.int kk), .val (.int en), .val (.int dots), .val (.int ls), .val (.int (lo &&& (own_let (cs.getD i 0)))), .val (.int (Int32.ofNat i)), .val (.int (cs.getD i 0))] 91 (fun _ q => XS.istore X63.here hx rfl (hb hby dp10m4_89) rfl (l' := #[.val (.ref a1), .val (.int kk), .val (.int en), .val (.int dots), .val (.int ls), .val (.int (lo &&& (own_let (cs.getD i 0)))), .val (.int (Int32.ofNat i)), .val (.int (cs.getD i 0))]) rfl q) ?_
          refine own_tp (.int dots) 92 (fun _ q => XS.iloadN X63.here hx rfl (hb hby dp10m4_91) rfl q) ?_
          by_cases c64 : (0 : Int32) < dots
          ·
            refine own_d1 95 (fun _ q => XS.ifNo X63.here hx rfl (hb hby dp10m4_92) rfl ((if0 _ _).trans (tlt c64).2.2.2) q) ?_
            refine own_tp (.int (lo &&& (own_let (cs.getD i 0)))) 97 (fun _ q => XS.iload X63.here hx rfl (hb hby dp10m4_95) rfl q) ?_
            by_cases c65 : (lo &&& (own_let (cs.getD i 0))) = (0 : Int32)
            ·
              refine own_d1 116 (fun _ q => XS.ifYes X63.here hx rfl (pc0 := 97) (pc' := 116) rfl (hb hby dp10m4_97) rfl ((if0 _ _).trans (teq c65).1) (by decide) (by decide) q) ?_
              refine own_li #[.val (.ref a1), .val (.int kk), .val (.int en), .val (.int dots), .val (.int ls), .val (.int (lo &&& (own_let (cs.getD i 0)))), .val (.int ((Int32.ofNat i) + (1 : Int32))), .val (.int (cs.getD i 0))] 119 (fun _ q => XS.iinc X63.here hx rfl (hb hby dp10m4_116) rfl (l' := #[.val (.ref a1), .val (.int kk), .val (.int en), .val (.int dots), .val (.int ls), .val (.int (lo &&& (own_let (cs.getD i 0)))), .val (.int ((Int32.ofNat i) + (1 : Int32))), .val (.int (cs.getD i 0))]) rfl q) ?_
              refine own_d0 13 (fun _ q => XS.goto X63.here hx rfl (pc0 := 119) (pc' := 13) rfl (hb hby dp10m4_119) (by decide) (by decide) q) ?_
              have hr : (own_run cs (f + 1) i en dots ls lo) = (own_run cs f (i + 1) en dots ls (lo &&& (own_let (cs.getD i 0)))) := by simp only [own_run, own_en, if_neg c54, if_neg c57, if_pos c64, if_pos c65, ↓reduceIte]
              rw [own_succ i, hr]
              exact ih (i + 1) en dots ls (lo &&& (own_let (cs.getD i 0))) _ T63 _ (by omega) (One.val rfl) X63 N63 eq63
            ·
              refine own_d1 100 (fun _ q => XS.ifNo X63.here hx rfl (hb hby dp10m4_97) rfl ((if0 _ _).trans (feq c65).1) q) ?_
              refine own_tp (.int (Int32.ofNat i)) 102 (fun _ q => XS.iload X63.here hx rfl (hb hby dp10m4_100) rfl q) ?_
              refine own_tp (.int (1 : Int32)) 103 (fun _ q => XS.iconst X63.here hx rfl (hb hby dp10m4_102) q) ?_
              refine own_t2 (.int ((Int32.ofNat i) + (1 : Int32))) 104 (fun _ q => XS.iadd X63.here hx rfl (hb hby dp10m4_103) rfl q) ?_
              refine own_tp (.int ls) 106 (fun _ q => XS.iload X63.here hx rfl (hb hby dp10m4_104) rfl q) ?_
              refine own_t2 (.int (((Int32.ofNat i) + (1 : Int32)) - ls)) 107 (fun _ q => XS.isub X63.here hx rfl (hb hby dp10m4_106) rfl q) ?_
              refine own_tp (.int (2 : Int32)) 108 (fun _ q => XS.iconst X63.here hx rfl (hb hby dp10m4_107) q) ?_
              by_cases c66 : (((Int32.ofNat i) + (1 : Int32)) - ls) < (2 : Int32)
              ·
                refine own_d2 116 (fun _ q => XS.icmpYes X63.here hx rfl (pc0 := 108) (pc' := 116) rfl (hb hby dp10m4_108) rfl (tlt c66).1 (by decide) (by decide) q) ?_
                refine own_li #[.val (.ref a1), .val (.int kk), .val (.int en), .val (.int dots), .val (.int ls), .val (.int (lo &&& (own_let (cs.getD i 0)))), .val (.int ((Int32.ofNat i) + (1 : Int32))), .val (.int (cs.getD i 0))] 119 (fun _ q => XS.iinc X63.here hx rfl (hb hby dp10m4_116) rfl (l' := #[.val (.ref a1), .val (.int kk), .val (.int en), .val (.int dots), .val (.int ls), .val (.int (lo &&& (own_let (cs.getD i 0)))), .val (.int ((Int32.ofNat i) + (1 : Int32))), .val (.int (cs.getD i 0))]) rfl q) ?_
                refine own_d0 13 (fun _ q => XS.goto X63.here hx rfl (pc0 := 119) (pc' := 13) rfl (hb hby dp10m4_119) (by decide) (by decide) q) ?_
                have hr : (own_run cs (f + 1) i en dots ls lo) = (own_run cs f (i + 1) en dots ls (lo &&& (own_let (cs.getD i 0)))) := by simp only [own_run, own_en, if_neg c54, if_neg c57, if_pos c64, if_neg c65, if_pos c66, ↓reduceIte]
                rw [own_succ i, hr]
                exact ih (i + 1) en dots ls (lo &&& (own_let (cs.getD i 0))) _ T63 _ (by omega) (One.val rfl) X63 N63 eq63
              ·
                refine own_d2 111 (fun _ q => XS.icmpNo X63.here hx rfl (hb hby dp10m4_108) rfl (flt c66).1 q) ?_
                refine own_tp (.int (Int32.ofNat i)) 113 (fun _ q => XS.iload X63.here hx rfl (hb hby dp10m4_111) rfl q) ?_
                refine own_tp (.int (1 : Int32)) 114 (fun _ q => XS.iconst X63.here hx rfl (hb hby dp10m4_113) q) ?_
                refine own_t2 (.int ((Int32.ofNat i) + (1 : Int32))) 115 (fun _ q => XS.iadd X63.here hx rfl (hb hby dp10m4_114) rfl q) ?_
                refine own_ls #[.val (.ref a1), .val (.int kk), .val (.int ((Int32.ofNat i) + (1 : Int32))), .val (.int dots), .val (.int ls), .val (.int (lo &&& (own_let (cs.getD i 0)))), .val (.int (Int32.ofNat i)), .val (.int (cs.getD i 0))] 116 (fun _ q => XS.istoreN X63.here hx rfl (hb hby dp10m4_115) rfl (l' := #[.val (.ref a1), .val (.int kk), .val (.int ((Int32.ofNat i) + (1 : Int32))), .val (.int dots), .val (.int ls), .val (.int (lo &&& (own_let (cs.getD i 0)))), .val (.int (Int32.ofNat i)), .val (.int (cs.getD i 0))]) rfl q) ?_
                refine own_li #[.val (.ref a1), .val (.int kk), .val (.int ((Int32.ofNat i) + (1 : Int32))), .val (.int dots), .val (.int ls), .val (.int (lo &&& (own_let (cs.getD i 0)))), .val (.int ((Int32.ofNat i) + (1 : Int32))), .val (.int (cs.getD i 0))] 119 (fun _ q => XS.iinc X63.here hx rfl (hb hby dp10m4_116) rfl (l' := #[.val (.ref a1), .val (.int kk), .val (.int ((Int32.ofNat i) + (1 : Int32))), .val (.int dots), .val (.int ls), .val (.int (lo &&& (own_let (cs.getD i 0)))), .val (.int ((Int32.ofNat i) + (1 : Int32))), .val (.int (cs.getD i 0))]) rfl q) ?_
                refine own_d0 13 (fun _ q => XS.goto X63.here hx rfl (pc0 := 119) (pc' := 13) rfl (hb hby dp10m4_119) (by decide) (by decide) q) ?_
                have hr : (own_run cs (f + 1) i en dots ls lo) = (own_run cs f (i + 1) (Int32.ofNat (i + 1)) dots ls (lo &&& (own_let (cs.getD i 0)))) := by simp only [own_run, own_en, if_neg c54, if_neg c57, if_pos c64, if_neg c65, if_neg c66, ↓reduceIte]
                rw [own_succ i, hr]
                exact ih (i + 1) (Int32.ofNat (i + 1)) dots ls (lo &&& (own_let (cs.getD i 0))) _ T63 _ (by omega) (One.val rfl) X63 N63 eq63
          ·
            refine own_d1 116 (fun _ q => XS.ifYes X63.here hx rfl (pc0 := 92) (pc' := 116) rfl (hb hby dp10m4_92) rfl ((if0 _ _).trans (flt c64).2.2.2) (by decide) (by decide) q) ?_
            refine own_li #[.val (.ref a1), .val (.int kk), .val (.int en), .val (.int dots), .val (.int ls), .val (.int (lo &&& (own_let (cs.getD i 0)))), .val (.int ((Int32.ofNat i) + (1 : Int32))), .val (.int (cs.getD i 0))] 119 (fun _ q => XS.iinc X63.here hx rfl (hb hby dp10m4_116) rfl (l' := #[.val (.ref a1), .val (.int kk), .val (.int en), .val (.int dots), .val (.int ls), .val (.int (lo &&& (own_let (cs.getD i 0)))), .val (.int ((Int32.ofNat i) + (1 : Int32))), .val (.int (cs.getD i 0))]) rfl q) ?_
            refine own_d0 13 (fun _ q => XS.goto X63.here hx rfl (pc0 := 119) (pc' := 13) rfl (hb hby dp10m4_119) (by decide) (by decide) q) ?_
            have hr : (own_run cs (f + 1) i en dots ls lo) = (own_run cs f (i + 1) en dots ls (lo &&& (own_let (cs.getD i 0)))) := by simp only [own_run, own_en, if_neg c54, if_neg c57, if_neg c64, ↓reduceIte]
            rw [own_succ i, hr]
            exact ih (i + 1) en dots ls (lo &&& (own_let (cs.getD i 0))) _ T63 _ (by omega) (One.val rfl) X63 N63 eq63
  rcases hk with rfl | rfl | rfl
  · rw [own_he0]; exact loop 8 0 (-1 : Int32) (0 : Int32) (0 : Int32) (1 : Int32) .unset s₁ _ (by rw [hcs]) One.u X0 N0 e0
  · rw [own_he1]; exact loop 7 1 (-1 : Int32) (0 : Int32) (1 : Int32) (1 : Int32) .unset s₁ _ (by rw [hcs]) One.u X0 N0 e0
  · rw [own_he2]; exact loop 6 2 (-1 : Int32) (0 : Int32) (2 : Int32) (1 : Int32) .unset s₁ _ (by rw [hcs]) One.u X0 N0 e0

set_option maxRecDepth 65536 in
set_option maxHeartbeats 40000000 in
theorem rm0 (l : Launch) (Z : State) (a0 : Array Value) (hw : ∀ d ∈ tables_1, d.before a0 Z = true) (ws : List Jvm.Cond) (q0 q1 : Int64) (p2 p3 : Int32) (h0 : Heap) (n0 : Nat) (Z0 : n0 ≤ h0.size) (G1 : Int32) (P5 : ¬ G1 = (0 : Int32)) (O0 : Old Z n0 h0) (Sc : Sta Z Z.heap "java/lang/String" "COMPACT_STRINGS" "Z" (.int G1)) (G3 : Value) (rG3 : G3.isRef = true) (Sf : Sta Z Z.heap "jdk/internal/util/Preconditions" "SIOOBE_FORMATTER" "Ljava/util/function/BiFunction;" G3) :
    own_Met l x code maxLocals ret ws room_1 Z #[(.long q0), (.long q1), (.int p2), (.int p3)] h0 (Q0 h0 n0) := by
  refine own_enter #[.val (.long q0), .second, .val (.long q1), .second, .val (.int p2), .val (.int p3), .unset, .unset, .unset, .unset, .unset, .unset, .unset, .unset, .unset, .unset, .unset, .unset, .unset, .unset, .unset, .unset, .unset, .unset, .unset, .unset, .unset, .unset, .unset, .unset] (plainFor_of_name pn_com_example_cited_experts_citedexperts_EmailAddressHostEndPinLaw) (fun m => ef_JJII_maxLocals m q0 q1 p2 p3) ?_
  intro p e s m below meth c s₁ hx hby hml hown hnm hZ hrt hlk X0 e0
  have N0 := Fr.nil n0
  refine own_tp (.int (6 : Int32)) 2 (fun _ q => XS.bipush X0.here hx rfl (hb hby at_0) q) ?_
  let L_51 : Array Slot := #[.val (.long q0), .second, .val (.long q1), .second, .val (.int p2), .val (.int p3), .unset, .unset, .unset, .unset, .unset, .unset, .unset, .unset, .unset, .unset, .unset, .unset, .unset, .unset, .unset, .unset, .unset, .unset, .unset, .unset, .unset, .unset, .unset, .unset]
  obtain ⟨T52, h52, k52, X52, e52, E52, A52, st52⟩ := newP X0 hx hZ (own_w hw 0 rfl) e0 (g := (mkF m 2 L_51 [(.int (6 : Int32))])) rfl (hb hby at_2) rfl (by decide) (cap := 6) (by decide) (by decide) (by decide) (by decide)
  obtain ⟨b52, g52⟩ : ∃ z, z = h0.size := ⟨_, rfl⟩
  rw [← g52] at A52 st52
  have V52 : Arv Z h52 b52 k52 .char (6 : Int32) [(.int (0 : Int32)), (.int (0 : Int32)), (.int (0 : Int32)), (.int (0 : Int32)), (.int (0 : Int32)), (.int (0 : Int32))] (.int (0 : Int32)) := (Arv.new A52 (by decide)).pad (pad_rep [] (.int (0 : Int32)) 6)
  have ge52 : n0 ≤ b52 := Nat.le_trans Z0 (Nat.le_of_eq g52.symm)
  have O52 := Old.ext O0 E52
  have Z52 : n0 ≤ h52.size := Nat.le_trans Z0 E52.1
  refine own_t1 (.ref b52) 4 st52 ?_
  let L_53 : Array Slot := #[.val (.long q0), .second, .val (.long q1), .second, .val (.int p2), .val (.int p3), .val (.ref b52), .unset, .unset, .unset, .unset, .unset, .unset, .unset, .unset, .unset, .unset, .unset, .unset, .unset, .unset, .unset, .unset, .unset, .unset, .unset, .unset, .unset, .unset, .unset]
  refine own_ls L_53 6 (fun _ q => XS.astore X52.here hx rfl (hb hby at_4) rfl rfl (l' := L_53) rfl q) ?_
  refine own_tp (.ref b52) 8 (fun _ q => XS.aload X52.here hx rfl (hb hby at_6) rfl rfl q) ?_
  refine own_tp (.int (0 : Int32)) 9 (fun _ q => XS.iconst X52.here hx rfl (hb hby at_8) q) ?_
  refine own_tp (.long q0) 10 (fun _ q => XS.lloadN X52.here hx rfl (hb hby at_9) rfl q) ?_
  refine own_tp (.long (255 : Int64)) 13 (fun _ q => X52.ldc2Long hx hown (mvT hZ (own_w hw 1 rfl)) (g := (mkF m 10 L_53 [(.long q0), (.int (0 : Int32)), (.ref b52)])) rfl (hb hby at_10) _ q) ?_
  refine own_t2 (.long (q0 &&& (255 : Int64))) 14 (fun _ q => XS.land X52.here hx rfl (hb hby at_13) rfl q) ?_
  refine own_t1 (.int ((q0 &&& (255 : Int64)).toInt32)) 15 (fun _ q => XS.l2i X52.here hx rfl (hb hby at_14) rfl q) ?_
  refine own_tp (.long q1) 16 (fun _ q => XS.lloadN X52.here hx rfl (hb hby at_15) rfl q) ?_
  refine own_tp (.long (7 : Int64)) 19 (fun _ q => X52.ldc2Long hx hown (mvT hZ (own_w hw 2 rfl)) (g := (mkF m 16 L_53 [(.long q1), (.int ((q0 &&& (255 : Int64)).toInt32)), (.int (0 : Int32)), (.ref b52)])) rfl (hb hby at_16) _ q) ?_
  refine own_t2 (.long (q1 &&& (7 : Int64))) 20 (fun _ q => XS.land X52.here hx rfl (hb hby at_19) rfl q) ?_
  refine own_t1 (.int ((q1 &&& (7 : Int64)).toInt32)) 21 (fun _ q => XS.l2i X52.here hx rfl (hb hby at_20) rfl q) ?_
  obtain ⟨_, _, ⟨T54, L54, k54, n54⟩, -, X54, ⟨Lc54, hQ54, l54, y54, z54⟩, st54⟩ := Jvm.LawKit.callS X52 hx (y := (⟨"com/example/cited_experts/citedexperts/EmailAddressHostEndPinLaw", "pick", "(II)C"⟩ : MethodName)) hown (mvT hZ (own_w hw 3 rfl)) (mvT hZ (own_w hw 4 rfl)) (mvT hZ (own_w hw 5 rfl)) (mvT hZ (own_w hw 6 rfl)) (by decide) (backOf (W := 2) (rm5 l Z a0 hw [] ((q0 &&& (255 : Int64)).toInt32) ((q1 &&& (7 : Int64)).toInt32) h52 n0 (own_mL _)) hZ (own_w hw 6 rfl) (own_w hw 5 rfl) (by decide) (by decide)) (g := (mkF m 21 L_53 [(.int ((q1 &&& (7 : Int64)).toInt32)), (.int ((q0 &&& (255 : Int64)).toInt32)), (.int (0 : Int32)), (.ref b52)])) rfl (by rw [hml]; rfl) (argsL := [(.int ((q0 &&& (255 : Int64)).toInt32)), (.int ((q1 &&& (7 : Int64)).toInt32))]) (rest := [(.int (0 : Int32)), (.ref b52)]) (lenOf pd4 rfl) rfl (by show 2 * 0 + _ ≤ _; exact Nat.le_of_eq rfl) (hb hby at_21) (fun _ _ => ⟨rfl, e52, (by decide : 1 + 0 ≤ _), (by decide : 6 + 0 ≤ _)⟩)
  dsimp only [Pt.U, Pt.locs, Pt.cells, Pt.slots] at X54 l54 y54 z54 st54 hQ54
  subst l54 y54 z54
  obtain ⟨ch54, rfl, hc54, Nq54, eq54⟩ := hQ54
  have N54 := Fr.app N0 Nq54
  refine own_t2 (.int ch54) 24 st54 ?_
  obtain ⟨cl55, Ar55, q55, S55, Nn55, H55, G55⟩ := (id V52)
  have hin55 : ¬ ((0 : Int32) < 0 ∨ cl55.slots.size ≤ ((0 : Int32)).toNatClampNeg) := inb_of S55 ⟨by decide, by decide⟩
  obtain ⟨T56, h56, X56, e56, W56, st56⟩ := stC X54 hx hZ eq54 Ar55 (j := (0 : Int32)) hin55 (g := (mkF m 24 L_53 [(.int ch54), (.int (0 : Int32)), (.ref b52)])) rfl rfl (hb hby at_24)
  have V56 := Arv.set Ar55 q55 S55 Nn55 H55 G55 (fits_nar_char _) W56 0 rfl (Nat.le_of_ble_eq_true rfl)
  have N56 := Fr.snoc X56 N54 ge52
  have O56 := Old.wr O52 W56 ge52
  have Z56 : n0 ≤ h56.size := Nat.le_trans Z52 (Nat.le_of_eq W56.size.symm)
  have V56' : Arv Z h56 b52 k52 .char (6 : Int32) [(.int ch54), (.int (0 : Int32)), (.int (0 : Int32)), (.int (0 : Int32)), (.int (0 : Int32)), (.int (0 : Int32))] (.int (0 : Int32)) := by have q := V56; first | (rw [own_narc (own_up hc54)] at q; exact q) | (rw [own_i2c (own_up hc54)] at q; exact q)
  refine own_cs [] 25 st56 ?_
  refine own_tp (.ref b52) 27 (fun _ q => XS.aload X56.here hx rfl (hb hby at_25) rfl rfl q) ?_
  refine own_tp (.int (1 : Int32)) 28 (fun _ q => XS.iconst X56.here hx rfl (hb hby at_27) q) ?_
  refine own_tp (.long q0) 29 (fun _ q => XS.lloadN X56.here hx rfl (hb hby at_28) rfl q) ?_
  refine own_tp (.int (8 : Int32)) 31 (fun _ q => XS.bipush X56.here hx rfl (hb hby at_29) q) ?_
  refine own_t2 (.long ((q0.toUInt64 >>> ((8 : Int32) &&& 0x3f).toInt64.toUInt64).toInt64)) 32 (fun _ q => XS.lushr X56.here hx rfl (hb hby at_31) rfl q) ?_
  refine own_tp (.long (255 : Int64)) 35 (fun _ q => X56.ldc2Long hx hown (mvT hZ (own_w hw 1 rfl)) (g := (mkF m 32 L_53 [(.long ((q0.toUInt64 >>> ((8 : Int32) &&& 0x3f).toInt64.toUInt64).toInt64)), (.int (1 : Int32)), (.ref b52)])) rfl (hb hby at_32) _ q) ?_
  refine own_t2 (.long (((q0.toUInt64 >>> ((8 : Int32) &&& 0x3f).toInt64.toUInt64).toInt64) &&& (255 : Int64))) 36 (fun _ q => XS.land X56.here hx rfl (hb hby at_35) rfl q) ?_
  refine own_t1 (.int ((((q0.toUInt64 >>> ((8 : Int32) &&& 0x3f).toInt64.toUInt64).toInt64) &&& (255 : Int64)).toInt32)) 37 (fun _ q => XS.l2i X56.here hx rfl (hb hby at_36) rfl q) ?_
  refine own_tp (.long q1) 38 (fun _ q => XS.lloadN X56.here hx rfl (hb hby at_37) rfl q) ?_
  refine own_tp (.int (3 : Int32)) 39 (fun _ q => XS.iconst X56.here hx rfl (hb hby at_38) q) ?_
  refine own_t2 (.long ((q1.toUInt64 >>> ((3 : Int32) &&& 0x3f).toInt64.toUInt64).toInt64)) 40 (fun _ q => XS.lushr X56.here hx rfl (hb hby at_39) rfl q) ?_
  refine own_tp (.long (7 : Int64)) 43 (fun _ q => X56.ldc2Long hx hown (mvT hZ (own_w hw 2 rfl)) (g := (mkF m 40 L_53 [(.long ((q1.toUInt64 >>> ((3 : Int32) &&& 0x3f).toInt64.toUInt64).toInt64)), (.int ((((q0.toUInt64 >>> ((8 : Int32) &&& 0x3f).toInt64.toUInt64).toInt64) &&& (255 : Int64)).toInt32)), (.int (1 : Int32)), (.ref b52)])) rfl (hb hby at_40) _ q) ?_
  refine own_t2 (.long (((q1.toUInt64 >>> ((3 : Int32) &&& 0x3f).toInt64.toUInt64).toInt64) &&& (7 : Int64))) 44 (fun _ q => XS.land X56.here hx rfl (hb hby at_43) rfl q) ?_
  refine own_t1 (.int ((((q1.toUInt64 >>> ((3 : Int32) &&& 0x3f).toInt64.toUInt64).toInt64) &&& (7 : Int64)).toInt32)) 45 (fun _ q => XS.l2i X56.here hx rfl (hb hby at_44) rfl q) ?_
  obtain ⟨_, _, ⟨T57, L57, k57, n57⟩, -, X57, ⟨Lc57, hQ57, l57, y57, z57⟩, st57⟩ := Jvm.LawKit.callS X56 hx (y := (⟨"com/example/cited_experts/citedexperts/EmailAddressHostEndPinLaw", "pick", "(II)C"⟩ : MethodName)) hown (mvT hZ (own_w hw 3 rfl)) (mvT hZ (own_w hw 4 rfl)) (mvT hZ (own_w hw 5 rfl)) (mvT hZ (own_w hw 6 rfl)) (by decide) (backOf (W := 2) (rm5 l Z a0 hw [] ((((q0.toUInt64 >>> ((8 : Int32) &&& 0x3f).toInt64.toUInt64).toInt64) &&& (255 : Int64)).toInt32) ((((q1.toUInt64 >>> ((3 : Int32) &&& 0x3f).toInt64.toUInt64).toInt64) &&& (7 : Int64)).toInt32) h56 n0 (own_mL _)) hZ (own_w hw 6 rfl) (own_w hw 5 rfl) (by decide) (by decide)) (g := (mkF m 45 L_53 [(.int ((((q1.toUInt64 >>> ((3 : Int32) &&& 0x3f).toInt64.toUInt64).toInt64) &&& (7 : Int64)).toInt32)), (.int ((((q0.toUInt64 >>> ((8 : Int32) &&& 0x3f).toInt64.toUInt64).toInt64) &&& (255 : Int64)).toInt32)), (.int (1 : Int32)), (.ref b52)])) rfl (by rw [hml]; rfl) (argsL := [(.int ((((q0.toUInt64 >>> ((8 : Int32) &&& 0x3f).toInt64.toUInt64).toInt64) &&& (255 : Int64)).toInt32)), (.int ((((q1.toUInt64 >>> ((3 : Int32) &&& 0x3f).toInt64.toUInt64).toInt64) &&& (7 : Int64)).toInt32))]) (rest := [(.int (1 : Int32)), (.ref b52)]) (lenOf pd4 rfl) rfl (by show 2 * 0 + _ ≤ _; exact Nat.le_of_eq rfl) (hb hby at_45) (fun _ _ => ⟨rfl, e56, (by decide : 1 + 0 ≤ _), (by decide : 6 + 0 ≤ _)⟩)
  dsimp only [Pt.U, Pt.locs, Pt.cells, Pt.slots] at X57 l57 y57 z57 st57 hQ57
  subst l57 y57 z57
  obtain ⟨ch57, rfl, hc57, Nq57, eq57⟩ := hQ57
  have N57 := Fr.app N56 Nq57
  refine own_t2 (.int ch57) 48 st57 ?_
  obtain ⟨cl58, Ar58, q58, S58, Nn58, H58, G58⟩ := (id V56')
  have hin58 : ¬ ((1 : Int32) < 0 ∨ cl58.slots.size ≤ ((1 : Int32)).toNatClampNeg) := inb_of S58 ⟨by decide, by decide⟩
  obtain ⟨T59, h59, X59, e59, W59, st59⟩ := stC X57 hx hZ eq57 Ar58 (j := (1 : Int32)) hin58 (g := (mkF m 48 L_53 [(.int ch57), (.int (1 : Int32)), (.ref b52)])) rfl rfl (hb hby at_48)
  have V59 := Arv.set Ar58 q58 S58 Nn58 H58 G58 (fits_nar_char _) W59 1 rfl (Nat.le_of_ble_eq_true rfl)
  have N59 := Fr.snoc X59 N57 ge52
  have O59 := Old.wr O56 W59 ge52
  have Z59 : n0 ≤ h59.size := Nat.le_trans Z56 (Nat.le_of_eq W59.size.symm)
  have V59' : Arv Z h59 b52 k52 .char (6 : Int32) [(.int ch54), (.int ch57), (.int (0 : Int32)), (.int (0 : Int32)), (.int (0 : Int32)), (.int (0 : Int32))] (.int (0 : Int32)) := by have q := V59; first | (rw [own_narc (own_up hc57)] at q; exact q) | (rw [own_i2c (own_up hc57)] at q; exact q)
  refine own_cs [] 49 st59 ?_
  refine own_tp (.ref b52) 51 (fun _ q => XS.aload X59.here hx rfl (hb hby at_49) rfl rfl q) ?_
  refine own_tp (.int (2 : Int32)) 52 (fun _ q => XS.iconst X59.here hx rfl (hb hby at_51) q) ?_
  refine own_tp (.long q0) 53 (fun _ q => XS.lloadN X59.here hx rfl (hb hby at_52) rfl q) ?_
  refine own_tp (.int (16 : Int32)) 55 (fun _ q => XS.bipush X59.here hx rfl (hb hby at_53) q) ?_
  refine own_t2 (.long ((q0.toUInt64 >>> ((16 : Int32) &&& 0x3f).toInt64.toUInt64).toInt64)) 56 (fun _ q => XS.lushr X59.here hx rfl (hb hby at_55) rfl q) ?_
  refine own_tp (.long (255 : Int64)) 59 (fun _ q => X59.ldc2Long hx hown (mvT hZ (own_w hw 1 rfl)) (g := (mkF m 56 L_53 [(.long ((q0.toUInt64 >>> ((16 : Int32) &&& 0x3f).toInt64.toUInt64).toInt64)), (.int (2 : Int32)), (.ref b52)])) rfl (hb hby at_56) _ q) ?_
  refine own_t2 (.long (((q0.toUInt64 >>> ((16 : Int32) &&& 0x3f).toInt64.toUInt64).toInt64) &&& (255 : Int64))) 60 (fun _ q => XS.land X59.here hx rfl (hb hby at_59) rfl q) ?_
  refine own_t1 (.int ((((q0.toUInt64 >>> ((16 : Int32) &&& 0x3f).toInt64.toUInt64).toInt64) &&& (255 : Int64)).toInt32)) 61 (fun _ q => XS.l2i X59.here hx rfl (hb hby at_60) rfl q) ?_
  refine own_tp (.long q1) 62 (fun _ q => XS.lloadN X59.here hx rfl (hb hby at_61) rfl q) ?_
  refine own_tp (.int (6 : Int32)) 64 (fun _ q => XS.bipush X59.here hx rfl (hb hby at_62) q) ?_
  refine own_t2 (.long ((q1.toUInt64 >>> ((6 : Int32) &&& 0x3f).toInt64.toUInt64).toInt64)) 65 (fun _ q => XS.lushr X59.here hx rfl (hb hby at_64) rfl q) ?_
  refine own_tp (.long (7 : Int64)) 68 (fun _ q => X59.ldc2Long hx hown (mvT hZ (own_w hw 2 rfl)) (g := (mkF m 65 L_53 [(.long ((q1.toUInt64 >>> ((6 : Int32) &&& 0x3f).toInt64.toUInt64).toInt64)), (.int ((((q0.toUInt64 >>> ((16 : Int32) &&& 0x3f).toInt64.toUInt64).toInt64) &&& (255 : Int64)).toInt32)), (.int (2 : Int32)), (.ref b52)])) rfl (hb hby at_65) _ q) ?_
  refine own_t2 (.long (((q1.toUInt64 >>> ((6 : Int32) &&& 0x3f).toInt64.toUInt64).toInt64) &&& (7 : Int64))) 69 (fun _ q => XS.land X59.here hx rfl (hb hby at_68) rfl q) ?_
  refine own_t1 (.int ((((q1.toUInt64 >>> ((6 : Int32) &&& 0x3f).toInt64.toUInt64).toInt64) &&& (7 : Int64)).toInt32)) 70 (fun _ q => XS.l2i X59.here hx rfl (hb hby at_69) rfl q) ?_
  obtain ⟨_, _, ⟨T60, L60, k60, n60⟩, -, X60, ⟨Lc60, hQ60, l60, y60, z60⟩, st60⟩ := Jvm.LawKit.callS X59 hx (y := (⟨"com/example/cited_experts/citedexperts/EmailAddressHostEndPinLaw", "pick", "(II)C"⟩ : MethodName)) hown (mvT hZ (own_w hw 3 rfl)) (mvT hZ (own_w hw 4 rfl)) (mvT hZ (own_w hw 5 rfl)) (mvT hZ (own_w hw 6 rfl)) (by decide) (backOf (W := 2) (rm5 l Z a0 hw [] ((((q0.toUInt64 >>> ((16 : Int32) &&& 0x3f).toInt64.toUInt64).toInt64) &&& (255 : Int64)).toInt32) ((((q1.toUInt64 >>> ((6 : Int32) &&& 0x3f).toInt64.toUInt64).toInt64) &&& (7 : Int64)).toInt32) h59 n0 (own_mL _)) hZ (own_w hw 6 rfl) (own_w hw 5 rfl) (by decide) (by decide)) (g := (mkF m 70 L_53 [(.int ((((q1.toUInt64 >>> ((6 : Int32) &&& 0x3f).toInt64.toUInt64).toInt64) &&& (7 : Int64)).toInt32)), (.int ((((q0.toUInt64 >>> ((16 : Int32) &&& 0x3f).toInt64.toUInt64).toInt64) &&& (255 : Int64)).toInt32)), (.int (2 : Int32)), (.ref b52)])) rfl (by rw [hml]; rfl) (argsL := [(.int ((((q0.toUInt64 >>> ((16 : Int32) &&& 0x3f).toInt64.toUInt64).toInt64) &&& (255 : Int64)).toInt32)), (.int ((((q1.toUInt64 >>> ((6 : Int32) &&& 0x3f).toInt64.toUInt64).toInt64) &&& (7 : Int64)).toInt32))]) (rest := [(.int (2 : Int32)), (.ref b52)]) (lenOf pd4 rfl) rfl (by show 2 * 0 + _ ≤ _; exact Nat.le_of_eq rfl) (hb hby at_70) (fun _ _ => ⟨rfl, e59, (by decide : 1 + 0 ≤ _), (by decide : 6 + 0 ≤ _)⟩)
  dsimp only [Pt.U, Pt.locs, Pt.cells, Pt.slots] at X60 l60 y60 z60 st60 hQ60
  subst l60 y60 z60
  obtain ⟨ch60, rfl, hc60, Nq60, eq60⟩ := hQ60
  have N60 := Fr.app N59 Nq60
  refine own_t2 (.int ch60) 73 st60 ?_
  obtain ⟨cl61, Ar61, q61, S61, Nn61, H61, G61⟩ := (id V59')
  have hin61 : ¬ ((2 : Int32) < 0 ∨ cl61.slots.size ≤ ((2 : Int32)).toNatClampNeg) := inb_of S61 ⟨by decide, by decide⟩
  obtain ⟨T62, h62, X62, e62, W62, st62⟩ := stC X60 hx hZ eq60 Ar61 (j := (2 : Int32)) hin61 (g := (mkF m 73 L_53 [(.int ch60), (.int (2 : Int32)), (.ref b52)])) rfl rfl (hb hby at_73)
  have V62 := Arv.set Ar61 q61 S61 Nn61 H61 G61 (fits_nar_char _) W62 2 rfl (Nat.le_of_ble_eq_true rfl)
  have N62 := Fr.snoc X62 N60 ge52
  have O62 := Old.wr O59 W62 ge52
  have Z62 : n0 ≤ h62.size := Nat.le_trans Z59 (Nat.le_of_eq W62.size.symm)
  have V62' : Arv Z h62 b52 k52 .char (6 : Int32) [(.int ch54), (.int ch57), (.int ch60), (.int (0 : Int32)), (.int (0 : Int32)), (.int (0 : Int32))] (.int (0 : Int32)) := by have q := V62; first | (rw [own_narc (own_up hc60)] at q; exact q) | (rw [own_i2c (own_up hc60)] at q; exact q)
  refine own_cs [] 74 st62 ?_
  refine own_tp (.ref b52) 76 (fun _ q => XS.aload X62.here hx rfl (hb hby at_74) rfl rfl q) ?_
  refine own_tp (.int (3 : Int32)) 77 (fun _ q => XS.iconst X62.here hx rfl (hb hby at_76) q) ?_
  refine own_tp (.long q0) 78 (fun _ q => XS.lloadN X62.here hx rfl (hb hby at_77) rfl q) ?_
  refine own_tp (.int (24 : Int32)) 80 (fun _ q => XS.bipush X62.here hx rfl (hb hby at_78) q) ?_
  refine own_t2 (.long ((q0.toUInt64 >>> ((24 : Int32) &&& 0x3f).toInt64.toUInt64).toInt64)) 81 (fun _ q => XS.lushr X62.here hx rfl (hb hby at_80) rfl q) ?_
  refine own_tp (.long (255 : Int64)) 84 (fun _ q => X62.ldc2Long hx hown (mvT hZ (own_w hw 1 rfl)) (g := (mkF m 81 L_53 [(.long ((q0.toUInt64 >>> ((24 : Int32) &&& 0x3f).toInt64.toUInt64).toInt64)), (.int (3 : Int32)), (.ref b52)])) rfl (hb hby at_81) _ q) ?_
  refine own_t2 (.long (((q0.toUInt64 >>> ((24 : Int32) &&& 0x3f).toInt64.toUInt64).toInt64) &&& (255 : Int64))) 85 (fun _ q => XS.land X62.here hx rfl (hb hby at_84) rfl q) ?_
  refine own_t1 (.int ((((q0.toUInt64 >>> ((24 : Int32) &&& 0x3f).toInt64.toUInt64).toInt64) &&& (255 : Int64)).toInt32)) 86 (fun _ q => XS.l2i X62.here hx rfl (hb hby at_85) rfl q) ?_
  refine own_tp (.long q1) 87 (fun _ q => XS.lloadN X62.here hx rfl (hb hby at_86) rfl q) ?_
  refine own_tp (.int (9 : Int32)) 89 (fun _ q => XS.bipush X62.here hx rfl (hb hby at_87) q) ?_
  refine own_t2 (.long ((q1.toUInt64 >>> ((9 : Int32) &&& 0x3f).toInt64.toUInt64).toInt64)) 90 (fun _ q => XS.lushr X62.here hx rfl (hb hby at_89) rfl q) ?_
  refine own_tp (.long (7 : Int64)) 93 (fun _ q => X62.ldc2Long hx hown (mvT hZ (own_w hw 2 rfl)) (g := (mkF m 90 L_53 [(.long ((q1.toUInt64 >>> ((9 : Int32) &&& 0x3f).toInt64.toUInt64).toInt64)), (.int ((((q0.toUInt64 >>> ((24 : Int32) &&& 0x3f).toInt64.toUInt64).toInt64) &&& (255 : Int64)).toInt32)), (.int (3 : Int32)), (.ref b52)])) rfl (hb hby at_90) _ q) ?_
  refine own_t2 (.long (((q1.toUInt64 >>> ((9 : Int32) &&& 0x3f).toInt64.toUInt64).toInt64) &&& (7 : Int64))) 94 (fun _ q => XS.land X62.here hx rfl (hb hby at_93) rfl q) ?_
  refine own_t1 (.int ((((q1.toUInt64 >>> ((9 : Int32) &&& 0x3f).toInt64.toUInt64).toInt64) &&& (7 : Int64)).toInt32)) 95 (fun _ q => XS.l2i X62.here hx rfl (hb hby at_94) rfl q) ?_
  obtain ⟨Lz63, Xz63, Nz63⟩ : ∃ Lz, Stand p l e room_1 s m #[(.long q0), (.long q1), (.int p2), (.int p3)] below meth c T62 Lz 1 6 ∧ Fr n0 Lz := ⟨_, X62, N62⟩
  obtain ⟨_, _, ⟨T64, L64, k64, n64⟩, -, X64, ⟨Lc64, hQ64, l64, y64, z64⟩, st64⟩ := Jvm.LawKit.callS Xz63 hx (y := (⟨"com/example/cited_experts/citedexperts/EmailAddressHostEndPinLaw", "pick", "(II)C"⟩ : MethodName)) hown (mvT hZ (own_w hw 3 rfl)) (mvT hZ (own_w hw 4 rfl)) (mvT hZ (own_w hw 5 rfl)) (mvT hZ (own_w hw 6 rfl)) (by decide) (backOf (W := 2) (rm5 l Z a0 hw [] ((((q0.toUInt64 >>> ((24 : Int32) &&& 0x3f).toInt64.toUInt64).toInt64) &&& (255 : Int64)).toInt32) ((((q1.toUInt64 >>> ((9 : Int32) &&& 0x3f).toInt64.toUInt64).toInt64) &&& (7 : Int64)).toInt32) h62 n0 (own_mL _)) hZ (own_w hw 6 rfl) (own_w hw 5 rfl) (by decide) (by decide)) (g := (mkF m 95 L_53 [(.int ((((q1.toUInt64 >>> ((9 : Int32) &&& 0x3f).toInt64.toUInt64).toInt64) &&& (7 : Int64)).toInt32)), (.int ((((q0.toUInt64 >>> ((24 : Int32) &&& 0x3f).toInt64.toUInt64).toInt64) &&& (255 : Int64)).toInt32)), (.int (3 : Int32)), (.ref b52)])) rfl (by rw [hml]; rfl) (argsL := [(.int ((((q0.toUInt64 >>> ((24 : Int32) &&& 0x3f).toInt64.toUInt64).toInt64) &&& (255 : Int64)).toInt32)), (.int ((((q1.toUInt64 >>> ((9 : Int32) &&& 0x3f).toInt64.toUInt64).toInt64) &&& (7 : Int64)).toInt32))]) (rest := [(.int (3 : Int32)), (.ref b52)]) (lenOf pd4 rfl) rfl (by show 2 * 0 + _ ≤ _; exact Nat.le_of_eq rfl) (hb hby at_95) (fun _ _ => ⟨rfl, e62, (by decide : 1 + 0 ≤ _), (by decide : 6 + 0 ≤ _)⟩)
  dsimp only [Pt.U, Pt.locs, Pt.cells, Pt.slots] at X64 l64 y64 z64 st64 hQ64
  subst l64 y64 z64
  obtain ⟨ch64, rfl, hc64, Nq64, eq64⟩ := hQ64
  have N64 := Fr.app Nz63 Nq64
  refine own_t2 (.int ch64) 98 st64 ?_
  obtain ⟨cl65, Ar65, q65, S65, Nn65, H65, G65⟩ := (id V62')
  have hin65 : ¬ ((3 : Int32) < 0 ∨ cl65.slots.size ≤ ((3 : Int32)).toNatClampNeg) := inb_of S65 ⟨by decide, by decide⟩
  obtain ⟨T66, h66, X66, e66, W66, st66⟩ := stC X64 hx hZ eq64 Ar65 (j := (3 : Int32)) hin65 (g := (mkF m 98 L_53 [(.int ch64), (.int (3 : Int32)), (.ref b52)])) rfl rfl (hb hby at_98)
  have V66 := Arv.set Ar65 q65 S65 Nn65 H65 G65 (fits_nar_char _) W66 3 rfl (Nat.le_of_ble_eq_true rfl)
  have N66 := Fr.snoc X66 N64 ge52
  have O66 := Old.wr O62 W66 ge52
  have Z66 : n0 ≤ h66.size := Nat.le_trans Z62 (Nat.le_of_eq W66.size.symm)
  have V66' : Arv Z h66 b52 k52 .char (6 : Int32) [(.int ch54), (.int ch57), (.int ch60), (.int ch64), (.int (0 : Int32)), (.int (0 : Int32))] (.int (0 : Int32)) := by have q := V66; first | (rw [own_narc (own_up hc64)] at q; exact q) | (rw [own_i2c (own_up hc64)] at q; exact q)
  refine own_cs [] 99 st66 ?_
  refine own_tp (.ref b52) 101 (fun _ q => XS.aload X66.here hx rfl (hb hby at_99) rfl rfl q) ?_
  refine own_tp (.int (4 : Int32)) 102 (fun _ q => XS.iconst X66.here hx rfl (hb hby at_101) q) ?_
  refine own_tp (.long q0) 103 (fun _ q => XS.lloadN X66.here hx rfl (hb hby at_102) rfl q) ?_
  refine own_tp (.int (32 : Int32)) 105 (fun _ q => XS.bipush X66.here hx rfl (hb hby at_103) q) ?_
  refine own_t2 (.long ((q0.toUInt64 >>> ((32 : Int32) &&& 0x3f).toInt64.toUInt64).toInt64)) 106 (fun _ q => XS.lushr X66.here hx rfl (hb hby at_105) rfl q) ?_
  refine own_tp (.long (255 : Int64)) 109 (fun _ q => X66.ldc2Long hx hown (mvT hZ (own_w hw 1 rfl)) (g := (mkF m 106 L_53 [(.long ((q0.toUInt64 >>> ((32 : Int32) &&& 0x3f).toInt64.toUInt64).toInt64)), (.int (4 : Int32)), (.ref b52)])) rfl (hb hby at_106) _ q) ?_
  refine own_t2 (.long (((q0.toUInt64 >>> ((32 : Int32) &&& 0x3f).toInt64.toUInt64).toInt64) &&& (255 : Int64))) 110 (fun _ q => XS.land X66.here hx rfl (hb hby at_109) rfl q) ?_
  refine own_t1 (.int ((((q0.toUInt64 >>> ((32 : Int32) &&& 0x3f).toInt64.toUInt64).toInt64) &&& (255 : Int64)).toInt32)) 111 (fun _ q => XS.l2i X66.here hx rfl (hb hby at_110) rfl q) ?_
  refine own_tp (.long q1) 112 (fun _ q => XS.lloadN X66.here hx rfl (hb hby at_111) rfl q) ?_
  refine own_tp (.int (12 : Int32)) 114 (fun _ q => XS.bipush X66.here hx rfl (hb hby at_112) q) ?_
  refine own_t2 (.long ((q1.toUInt64 >>> ((12 : Int32) &&& 0x3f).toInt64.toUInt64).toInt64)) 115 (fun _ q => XS.lushr X66.here hx rfl (hb hby at_114) rfl q) ?_
  refine own_tp (.long (7 : Int64)) 118 (fun _ q => X66.ldc2Long hx hown (mvT hZ (own_w hw 2 rfl)) (g := (mkF m 115 L_53 [(.long ((q1.toUInt64 >>> ((12 : Int32) &&& 0x3f).toInt64.toUInt64).toInt64)), (.int ((((q0.toUInt64 >>> ((32 : Int32) &&& 0x3f).toInt64.toUInt64).toInt64) &&& (255 : Int64)).toInt32)), (.int (4 : Int32)), (.ref b52)])) rfl (hb hby at_115) _ q) ?_
  refine own_t2 (.long (((q1.toUInt64 >>> ((12 : Int32) &&& 0x3f).toInt64.toUInt64).toInt64) &&& (7 : Int64))) 119 (fun _ q => XS.land X66.here hx rfl (hb hby at_118) rfl q) ?_
  refine own_t1 (.int ((((q1.toUInt64 >>> ((12 : Int32) &&& 0x3f).toInt64.toUInt64).toInt64) &&& (7 : Int64)).toInt32)) 120 (fun _ q => XS.l2i X66.here hx rfl (hb hby at_119) rfl q) ?_
  obtain ⟨_, _, ⟨T67, L67, k67, n67⟩, -, X67, ⟨Lc67, hQ67, l67, y67, z67⟩, st67⟩ := Jvm.LawKit.callS X66 hx (y := (⟨"com/example/cited_experts/citedexperts/EmailAddressHostEndPinLaw", "pick", "(II)C"⟩ : MethodName)) hown (mvT hZ (own_w hw 3 rfl)) (mvT hZ (own_w hw 4 rfl)) (mvT hZ (own_w hw 5 rfl)) (mvT hZ (own_w hw 6 rfl)) (by decide) (backOf (W := 2) (rm5 l Z a0 hw [] ((((q0.toUInt64 >>> ((32 : Int32) &&& 0x3f).toInt64.toUInt64).toInt64) &&& (255 : Int64)).toInt32) ((((q1.toUInt64 >>> ((12 : Int32) &&& 0x3f).toInt64.toUInt64).toInt64) &&& (7 : Int64)).toInt32) h66 n0 (own_mL _)) hZ (own_w hw 6 rfl) (own_w hw 5 rfl) (by decide) (by decide)) (g := (mkF m 120 L_53 [(.int ((((q1.toUInt64 >>> ((12 : Int32) &&& 0x3f).toInt64.toUInt64).toInt64) &&& (7 : Int64)).toInt32)), (.int ((((q0.toUInt64 >>> ((32 : Int32) &&& 0x3f).toInt64.toUInt64).toInt64) &&& (255 : Int64)).toInt32)), (.int (4 : Int32)), (.ref b52)])) rfl (by rw [hml]; rfl) (argsL := [(.int ((((q0.toUInt64 >>> ((32 : Int32) &&& 0x3f).toInt64.toUInt64).toInt64) &&& (255 : Int64)).toInt32)), (.int ((((q1.toUInt64 >>> ((12 : Int32) &&& 0x3f).toInt64.toUInt64).toInt64) &&& (7 : Int64)).toInt32))]) (rest := [(.int (4 : Int32)), (.ref b52)]) (lenOf pd4 rfl) rfl (by show 2 * 0 + _ ≤ _; exact Nat.le_of_eq rfl) (hb hby at_120) (fun _ _ => ⟨rfl, e66, (by decide : 1 + 0 ≤ _), (by decide : 6 + 0 ≤ _)⟩)
  dsimp only [Pt.U, Pt.locs, Pt.cells, Pt.slots] at X67 l67 y67 z67 st67 hQ67
  subst l67 y67 z67
  obtain ⟨ch67, rfl, hc67, Nq67, eq67⟩ := hQ67
  have N67 := Fr.app N66 Nq67
  refine own_t2 (.int ch67) 123 st67 ?_
  obtain ⟨cl68, Ar68, q68, S68, Nn68, H68, G68⟩ := (id V66')
  have hin68 : ¬ ((4 : Int32) < 0 ∨ cl68.slots.size ≤ ((4 : Int32)).toNatClampNeg) := inb_of S68 ⟨by decide, by decide⟩
  obtain ⟨T69, h69, X69, e69, W69, st69⟩ := stC X67 hx hZ eq67 Ar68 (j := (4 : Int32)) hin68 (g := (mkF m 123 L_53 [(.int ch67), (.int (4 : Int32)), (.ref b52)])) rfl rfl (hb hby at_123)
  have V69 := Arv.set Ar68 q68 S68 Nn68 H68 G68 (fits_nar_char _) W69 4 rfl (Nat.le_of_ble_eq_true rfl)
  have N69 := Fr.snoc X69 N67 ge52
  have O69 := Old.wr O66 W69 ge52
  have Z69 : n0 ≤ h69.size := Nat.le_trans Z66 (Nat.le_of_eq W69.size.symm)
  have V69' : Arv Z h69 b52 k52 .char (6 : Int32) [(.int ch54), (.int ch57), (.int ch60), (.int ch64), (.int ch67), (.int (0 : Int32))] (.int (0 : Int32)) := by have q := V69; first | (rw [own_narc (own_up hc67)] at q; exact q) | (rw [own_i2c (own_up hc67)] at q; exact q)
  refine own_cs [] 124 st69 ?_
  refine own_tp (.ref b52) 126 (fun _ q => XS.aload X69.here hx rfl (hb hby at_124) rfl rfl q) ?_
  refine own_tp (.int (5 : Int32)) 127 (fun _ q => XS.iconst X69.here hx rfl (hb hby at_126) q) ?_
  refine own_tp (.long q0) 128 (fun _ q => XS.lloadN X69.here hx rfl (hb hby at_127) rfl q) ?_
  refine own_tp (.int (40 : Int32)) 130 (fun _ q => XS.bipush X69.here hx rfl (hb hby at_128) q) ?_
  refine own_t2 (.long ((q0.toUInt64 >>> ((40 : Int32) &&& 0x3f).toInt64.toUInt64).toInt64)) 131 (fun _ q => XS.lushr X69.here hx rfl (hb hby at_130) rfl q) ?_
  refine own_tp (.long (255 : Int64)) 134 (fun _ q => X69.ldc2Long hx hown (mvT hZ (own_w hw 1 rfl)) (g := (mkF m 131 L_53 [(.long ((q0.toUInt64 >>> ((40 : Int32) &&& 0x3f).toInt64.toUInt64).toInt64)), (.int (5 : Int32)), (.ref b52)])) rfl (hb hby at_131) _ q) ?_
  refine own_t2 (.long (((q0.toUInt64 >>> ((40 : Int32) &&& 0x3f).toInt64.toUInt64).toInt64) &&& (255 : Int64))) 135 (fun _ q => XS.land X69.here hx rfl (hb hby at_134) rfl q) ?_
  refine own_t1 (.int ((((q0.toUInt64 >>> ((40 : Int32) &&& 0x3f).toInt64.toUInt64).toInt64) &&& (255 : Int64)).toInt32)) 136 (fun _ q => XS.l2i X69.here hx rfl (hb hby at_135) rfl q) ?_
  refine own_tp (.long q1) 137 (fun _ q => XS.lloadN X69.here hx rfl (hb hby at_136) rfl q) ?_
  refine own_tp (.int (15 : Int32)) 139 (fun _ q => XS.bipush X69.here hx rfl (hb hby at_137) q) ?_
  refine own_t2 (.long ((q1.toUInt64 >>> ((15 : Int32) &&& 0x3f).toInt64.toUInt64).toInt64)) 140 (fun _ q => XS.lushr X69.here hx rfl (hb hby at_139) rfl q) ?_
  refine own_tp (.long (7 : Int64)) 143 (fun _ q => X69.ldc2Long hx hown (mvT hZ (own_w hw 2 rfl)) (g := (mkF m 140 L_53 [(.long ((q1.toUInt64 >>> ((15 : Int32) &&& 0x3f).toInt64.toUInt64).toInt64)), (.int ((((q0.toUInt64 >>> ((40 : Int32) &&& 0x3f).toInt64.toUInt64).toInt64) &&& (255 : Int64)).toInt32)), (.int (5 : Int32)), (.ref b52)])) rfl (hb hby at_140) _ q) ?_
  refine own_t2 (.long (((q1.toUInt64 >>> ((15 : Int32) &&& 0x3f).toInt64.toUInt64).toInt64) &&& (7 : Int64))) 144 (fun _ q => XS.land X69.here hx rfl (hb hby at_143) rfl q) ?_
  refine own_t1 (.int ((((q1.toUInt64 >>> ((15 : Int32) &&& 0x3f).toInt64.toUInt64).toInt64) &&& (7 : Int64)).toInt32)) 145 (fun _ q => XS.l2i X69.here hx rfl (hb hby at_144) rfl q) ?_
  obtain ⟨_, _, ⟨T70, L70, k70, n70⟩, -, X70, ⟨Lc70, hQ70, l70, y70, z70⟩, st70⟩ := Jvm.LawKit.callS X69 hx (y := (⟨"com/example/cited_experts/citedexperts/EmailAddressHostEndPinLaw", "pick", "(II)C"⟩ : MethodName)) hown (mvT hZ (own_w hw 3 rfl)) (mvT hZ (own_w hw 4 rfl)) (mvT hZ (own_w hw 5 rfl)) (mvT hZ (own_w hw 6 rfl)) (by decide) (backOf (W := 2) (rm5 l Z a0 hw [] ((((q0.toUInt64 >>> ((40 : Int32) &&& 0x3f).toInt64.toUInt64).toInt64) &&& (255 : Int64)).toInt32) ((((q1.toUInt64 >>> ((15 : Int32) &&& 0x3f).toInt64.toUInt64).toInt64) &&& (7 : Int64)).toInt32) h69 n0 (own_mL _)) hZ (own_w hw 6 rfl) (own_w hw 5 rfl) (by decide) (by decide)) (g := (mkF m 145 L_53 [(.int ((((q1.toUInt64 >>> ((15 : Int32) &&& 0x3f).toInt64.toUInt64).toInt64) &&& (7 : Int64)).toInt32)), (.int ((((q0.toUInt64 >>> ((40 : Int32) &&& 0x3f).toInt64.toUInt64).toInt64) &&& (255 : Int64)).toInt32)), (.int (5 : Int32)), (.ref b52)])) rfl (by rw [hml]; rfl) (argsL := [(.int ((((q0.toUInt64 >>> ((40 : Int32) &&& 0x3f).toInt64.toUInt64).toInt64) &&& (255 : Int64)).toInt32)), (.int ((((q1.toUInt64 >>> ((15 : Int32) &&& 0x3f).toInt64.toUInt64).toInt64) &&& (7 : Int64)).toInt32))]) (rest := [(.int (5 : Int32)), (.ref b52)]) (lenOf pd4 rfl) rfl (by show 2 * 0 + _ ≤ _; exact Nat.le_of_eq rfl) (hb hby at_145) (fun _ _ => ⟨rfl, e69, (by decide : 1 + 0 ≤ _), (by decide : 6 + 0 ≤ _)⟩)
  dsimp only [Pt.U, Pt.locs, Pt.cells, Pt.slots] at X70 l70 y70 z70 st70 hQ70
  subst l70 y70 z70
  obtain ⟨ch70, rfl, hc70, Nq70, eq70⟩ := hQ70
  have N70 := Fr.app N69 Nq70
  refine own_t2 (.int ch70) 148 st70 ?_
  obtain ⟨cl71, Ar71, q71, S71, Nn71, H71, G71⟩ := (id V69')
  have hin71 : ¬ ((5 : Int32) < 0 ∨ cl71.slots.size ≤ ((5 : Int32)).toNatClampNeg) := inb_of S71 ⟨by decide, by decide⟩
  obtain ⟨T72, h72, X72, e72, W72, st72⟩ := stC X70 hx hZ eq70 Ar71 (j := (5 : Int32)) hin71 (g := (mkF m 148 L_53 [(.int ch70), (.int (5 : Int32)), (.ref b52)])) rfl rfl (hb hby at_148)
  have V72 := Arv.set Ar71 q71 S71 Nn71 H71 G71 (fits_nar_char _) W72 5 rfl (Nat.le_of_ble_eq_true rfl)
  have N72 := Fr.snoc X72 N70 ge52
  have O72 := Old.wr O69 W72 ge52
  have Z72 : n0 ≤ h72.size := Nat.le_trans Z69 (Nat.le_of_eq W72.size.symm)
  have V72' : Arv Z h72 b52 k52 .char (6 : Int32) [(.int ch54), (.int ch57), (.int ch60), (.int ch64), (.int ch67), (.int ch70)] (.int (0 : Int32)) := by have q := V72; first | (rw [own_narc (own_up hc70)] at q; exact q) | (rw [own_i2c (own_up hc70)] at q; exact q)
  refine own_cs [] 149 st72 ?_
  refine own_tp (.int p2) 151 (fun _ q => XS.iload X72.here hx rfl (hb hby at_149) rfl q) ?_
  refine own_tp (.int (255 : Int32)) 154 (fun _ q => XS.sipush X72.here hx rfl (hb hby at_151) q) ?_
  refine own_t2 (.int (p2 &&& (255 : Int32))) 155 (fun _ q => XS.iand X72.here hx rfl (hb hby at_154) rfl q) ?_
  refine own_tp (.int p2) 157 (fun _ q => XS.iload X72.here hx rfl (hb hby at_155) rfl q) ?_
  refine own_tp (.int (16 : Int32)) 159 (fun _ q => XS.bipush X72.here hx rfl (hb hby at_157) q) ?_
  refine own_t2 (.int ((p2.toUInt32 >>> ((16 : Int32) &&& 31).toUInt32).toInt32)) 160 (fun _ q => XS.iushr X72.here hx rfl (hb hby at_159) rfl q) ?_
  refine own_tp (.int (7 : Int32)) 162 (fun _ q => XS.bipush X72.here hx rfl (hb hby at_160) q) ?_
  refine own_t2 (.int (((p2.toUInt32 >>> ((16 : Int32) &&& 31).toUInt32).toInt32) &&& (7 : Int32))) 163 (fun _ q => XS.iand X72.here hx rfl (hb hby at_162) rfl q) ?_
  obtain ⟨Lz73, Xz73, Nz73⟩ : ∃ Lz, Stand p l e room_1 s m #[(.long q0), (.long q1), (.int p2), (.int p3)] below meth c T72 Lz 1 6 ∧ Fr n0 Lz := ⟨_, X72, N72⟩
  obtain ⟨_, _, ⟨T74, L74, k74, n74⟩, -, X74, ⟨Lc74, hQ74, l74, y74, z74⟩, st74⟩ := Jvm.LawKit.callS Xz73 hx (y := (⟨"com/example/cited_experts/citedexperts/EmailAddressHostEndPinLaw", "pick", "(II)C"⟩ : MethodName)) hown (mvT hZ (own_w hw 3 rfl)) (mvT hZ (own_w hw 4 rfl)) (mvT hZ (own_w hw 5 rfl)) (mvT hZ (own_w hw 6 rfl)) (by decide) (backOf (W := 0) (rm5 l Z a0 hw [] (p2 &&& (255 : Int32)) (((p2.toUInt32 >>> ((16 : Int32) &&& 31).toUInt32).toInt32) &&& (7 : Int32)) h72 n0 (own_m255 _)) hZ (own_w hw 6 rfl) (own_w hw 5 rfl) (by decide) (by decide)) (g := (mkF m 163 L_53 [(.int (((p2.toUInt32 >>> ((16 : Int32) &&& 31).toUInt32).toInt32) &&& (7 : Int32))), (.int (p2 &&& (255 : Int32)))])) rfl (by rw [hml]; rfl) (argsL := [(.int (p2 &&& (255 : Int32))), (.int (((p2.toUInt32 >>> ((16 : Int32) &&& 31).toUInt32).toInt32) &&& (7 : Int32)))]) (rest := []) (lenOf pd4 rfl) rfl (by show 2 * 0 + _ ≤ _; exact Nat.le_of_eq rfl) (hb hby at_163) (fun _ _ => ⟨rfl, e72, (by decide : 1 + 0 ≤ _), (by decide : 6 + 0 ≤ _)⟩)
  dsimp only [Pt.U, Pt.locs, Pt.cells, Pt.slots] at X74 l74 y74 z74 st74 hQ74
  subst l74 y74 z74
  obtain ⟨ch74, rfl, hc74, Nq74, eq74⟩ := hQ74
  have N74 := Fr.app Nz73 Nq74
  refine own_t2 (.int ch74) 166 st74 ?_
  let L_75 : Array Slot := #[.val (.long q0), .second, .val (.long q1), .second, .val (.int p2), .val (.int p3), .val (.ref b52), .val (.int ch74), .unset, .unset, .unset, .unset, .unset, .unset, .unset, .unset, .unset, .unset, .unset, .unset, .unset, .unset, .unset, .unset, .unset, .unset, .unset, .unset, .unset, .unset]
  refine own_ls L_75 168 (fun _ q => XS.istore X74.here hx rfl (hb hby at_166) rfl (l' := L_75) rfl q) ?_
  refine own_tp (.int p2) 170 (fun _ q => XS.iload X74.here hx rfl (hb hby at_168) rfl q) ?_
  refine own_tp (.int (8 : Int32)) 172 (fun _ q => XS.bipush X74.here hx rfl (hb hby at_170) q) ?_
  refine own_t2 (.int ((p2.toUInt32 >>> ((8 : Int32) &&& 31).toUInt32).toInt32)) 173 (fun _ q => XS.iushr X74.here hx rfl (hb hby at_172) rfl q) ?_
  refine own_tp (.int (255 : Int32)) 176 (fun _ q => XS.sipush X74.here hx rfl (hb hby at_173) q) ?_
  refine own_t2 (.int (((p2.toUInt32 >>> ((8 : Int32) &&& 31).toUInt32).toInt32) &&& (255 : Int32))) 177 (fun _ q => XS.iand X74.here hx rfl (hb hby at_176) rfl q) ?_
  refine own_tp (.int p2) 179 (fun _ q => XS.iload X74.here hx rfl (hb hby at_177) rfl q) ?_
  refine own_tp (.int (19 : Int32)) 181 (fun _ q => XS.bipush X74.here hx rfl (hb hby at_179) q) ?_
  refine own_t2 (.int ((p2.toUInt32 >>> ((19 : Int32) &&& 31).toUInt32).toInt32)) 182 (fun _ q => XS.iushr X74.here hx rfl (hb hby at_181) rfl q) ?_
  refine own_tp (.int (7 : Int32)) 184 (fun _ q => XS.bipush X74.here hx rfl (hb hby at_182) q) ?_
  refine own_t2 (.int (((p2.toUInt32 >>> ((19 : Int32) &&& 31).toUInt32).toInt32) &&& (7 : Int32))) 185 (fun _ q => XS.iand X74.here hx rfl (hb hby at_184) rfl q) ?_
  obtain ⟨_, _, ⟨T76, L76, k76, n76⟩, -, X76, ⟨Lc76, hQ76, l76, y76, z76⟩, st76⟩ := Jvm.LawKit.callS X74 hx (y := (⟨"com/example/cited_experts/citedexperts/EmailAddressHostEndPinLaw", "pick", "(II)C"⟩ : MethodName)) hown (mvT hZ (own_w hw 3 rfl)) (mvT hZ (own_w hw 4 rfl)) (mvT hZ (own_w hw 5 rfl)) (mvT hZ (own_w hw 6 rfl)) (by decide) (backOf (W := 0) (rm5 l Z a0 hw [] (((p2.toUInt32 >>> ((8 : Int32) &&& 31).toUInt32).toInt32) &&& (255 : Int32)) (((p2.toUInt32 >>> ((19 : Int32) &&& 31).toUInt32).toInt32) &&& (7 : Int32)) h72 n0 (own_m255 _)) hZ (own_w hw 6 rfl) (own_w hw 5 rfl) (by decide) (by decide)) (g := (mkF m 185 L_75 [(.int (((p2.toUInt32 >>> ((19 : Int32) &&& 31).toUInt32).toInt32) &&& (7 : Int32))), (.int (((p2.toUInt32 >>> ((8 : Int32) &&& 31).toUInt32).toInt32) &&& (255 : Int32)))])) rfl (by rw [hml]; rfl) (argsL := [(.int (((p2.toUInt32 >>> ((8 : Int32) &&& 31).toUInt32).toInt32) &&& (255 : Int32))), (.int (((p2.toUInt32 >>> ((19 : Int32) &&& 31).toUInt32).toInt32) &&& (7 : Int32)))]) (rest := []) (lenOf pd4 rfl) rfl (by show 2 * 0 + _ ≤ _; exact Nat.le_of_eq rfl) (hb hby at_185) (fun _ _ => ⟨rfl, eq74, (by decide : 1 + 0 ≤ _), (by decide : 6 + 0 ≤ _)⟩)
  dsimp only [Pt.U, Pt.locs, Pt.cells, Pt.slots] at X76 l76 y76 z76 st76 hQ76
  subst l76 y76 z76
  obtain ⟨ch76, rfl, hc76, Nq76, eq76⟩ := hQ76
  have N76 := Fr.app N74 Nq76
  refine own_t2 (.int ch76) 188 st76 ?_
  let L_77 : Array Slot := #[.val (.long q0), .second, .val (.long q1), .second, .val (.int p2), .val (.int p3), .val (.ref b52), .val (.int ch74), .val (.int ch76), .unset, .unset, .unset, .unset, .unset, .unset, .unset, .unset, .unset, .unset, .unset, .unset, .unset, .unset, .unset, .unset, .unset, .unset, .unset, .unset, .unset]
  refine own_ls L_77 190 (fun _ q => XS.istore X76.here hx rfl (hb hby at_188) rfl (l' := L_77) rfl q) ?_
  refine own_tp (.int p3) 192 (fun _ q => XS.iload X76.here hx rfl (hb hby at_190) rfl q) ?_
  refine own_tp (.int (2147483647 : Int32)) 194 (fun _ q => X76.ldcInt hx hown (mvT hZ (own_w hw 7 rfl)) (g := (mkF m 192 L_77 [(.int p3)])) rfl (hb hby at_192) _ q) ?_
  refine own_t2 (.int (p3 &&& (2147483647 : Int32))) 195 (fun _ q => XS.iand X76.here hx rfl (hb hby at_194) rfl q) ?_
  refine own_tp (.int (3 : Int32)) 196 (fun _ q => XS.iconst X76.here hx rfl (hb hby at_195) q) ?_
  refine own_t2 (.int ((p3 &&& (2147483647 : Int32)) % (3 : Int32))) 197 (fun _ q => iremM (g := (mkF m 196 L_77 [(.int (3 : Int32)), (.int (p3 &&& (2147483647 : Int32)))])) X76 hx rfl (hb hby at_196) rfl (by decide) q) ?_
  obtain ⟨kk, ekk, hk⟩ : ∃ kk : Int32, ((p3 &&& (2147483647 : Int32)) % (3 : Int32)) = kk ∧ (kk = (0 : Int32) ∨ kk = (1 : Int32) ∨ kk = (2 : Int32)) := ⟨_, rfl, own_3 p3⟩
  rw [ekk]
  let L_78 : Array Slot := #[.val (.long q0), .second, .val (.long q1), .second, .val (.int p2), .val (.int p3), .val (.ref b52), .val (.int ch74), .val (.int ch76), .val (.int kk), .unset, .unset, .unset, .unset, .unset, .unset, .unset, .unset, .unset, .unset, .unset, .unset, .unset, .unset, .unset, .unset, .unset, .unset, .unset, .unset]
  refine own_ls L_78 199 (fun _ q => XS.istore X76.here hx rfl (hb hby at_197) rfl (l' := L_78) rfl q) ?_
  refine own_tp (.int (8 : Int32)) 201 (fun _ q => XS.bipush X76.here hx rfl (hb hby at_199) q) ?_
  obtain ⟨T79, h79, k79, X79, e79, E79, A79, st79⟩ := newP X76 hx hZ (own_w hw 0 rfl) eq76 (g := (mkF m 201 L_78 [(.int (8 : Int32))])) rfl (hb hby at_201) rfl (by decide) (cap := 8) (by decide) (by decide) (by decide) (by decide)
  obtain ⟨b79, g79⟩ : ∃ z, z = h72.size := ⟨_, rfl⟩
  rw [← g79] at A79 st79
  have V79 : Arv Z h79 b79 k79 .char (8 : Int32) [(.int (0 : Int32)), (.int (0 : Int32)), (.int (0 : Int32)), (.int (0 : Int32)), (.int (0 : Int32)), (.int (0 : Int32)), (.int (0 : Int32)), (.int (0 : Int32))] (.int (0 : Int32)) := (Arv.new A79 (by decide)).pad (pad_rep [] (.int (0 : Int32)) 8)
  have ge79 : n0 ≤ b79 := Nat.le_trans Z72 (Nat.le_of_eq g79.symm)
  have ne80 : b52 ≠ b79 := Nat.ne_of_lt (Nat.lt_of_lt_of_le V72'.lt (Nat.le_of_eq g79.symm))
  have O79 := Old.ext O72 E79
  have Z79 : n0 ≤ h79.size := Nat.le_trans Z72 E79.1
  refine own_t1 (.ref b79) 203 st79 ?_
  let L_81 : Array Slot := #[.val (.long q0), .second, .val (.long q1), .second, .val (.int p2), .val (.int p3), .val (.ref b52), .val (.int ch74), .val (.int ch76), .val (.int kk), .val (.ref b79), .unset, .unset, .unset, .unset, .unset, .unset, .unset, .unset, .unset, .unset, .unset, .unset, .unset, .unset, .unset, .unset, .unset, .unset, .unset]
  refine own_ls L_81 205 (fun _ q => XS.astore X79.here hx rfl (hb hby at_203) rfl rfl (l' := L_81) rfl q) ?_
  refine own_tp (.ref b79) 207 (fun _ q => XS.aload X79.here hx rfl (hb hby at_205) rfl rfl q) ?_
  refine own_tp (.int (0 : Int32)) 208 (fun _ q => XS.iconst X79.here hx rfl (hb hby at_207) q) ?_
  refine own_tp (.ref b52) 210 (fun _ q => XS.aload X79.here hx rfl (hb hby at_208) rfl rfl q) ?_
  refine own_tp (.int ch74) 212 (fun _ q => XS.iload X79.here hx rfl (hb hby at_210) rfl q) ?_
  refine own_tp (.int ch76) 214 (fun _ q => XS.iload X79.here hx rfl (hb hby at_212) rfl q) ?_
  refine own_tp (.int kk) 216 (fun _ q => XS.iload X79.here hx rfl (hb hby at_214) rfl q) ?_
  refine own_tp (.int (0 : Int32)) 217 (fun _ q => XS.iconst X79.here hx rfl (hb hby at_216) q) ?_
  have f82 := (V72'.ext E79)
  obtain ⟨_, _, ⟨T83, L83, k83, n83⟩, -, X83, ⟨Lc83, hQ83, l83, y83, z83⟩, st83⟩ := Jvm.LawKit.callS X79 hx (y := (⟨"com/example/cited_experts/citedexperts/EmailAddressHostEndPinLaw", "slot", "([CCCII)C"⟩ : MethodName)) hown (mvT hZ (own_w hw 8 rfl)) (mvT hZ (own_w hw 9 rfl)) (mvT hZ (own_w hw 5 rfl)) (mvT hZ (own_w hw 10 rfl)) (by decide) (backOf (W := 2) (rm30 l Z a0 hw [] b52 k52 ch74 ch76 kk ch54 ch57 ch60 ch64 ch67 ch70 h79 n0 hk f82 hc74 hc76 hc54 hc57 hc60 hc64 hc67 hc70) hZ (own_w hw 10 rfl) (own_w hw 5 rfl) (by decide) (by decide)) (g := (mkF m 217 L_81 [(.int (0 : Int32)), (.int kk), (.int ch76), (.int ch74), (.ref b52), (.int (0 : Int32)), (.ref b79)])) rfl (by rw [hml]; rfl) (argsL := [(.ref b52), (.int ch74), (.int ch76), (.int kk), (.int (0 : Int32))]) (rest := [(.int (0 : Int32)), (.ref b79)]) (lenOf pd5 rfl) rfl (by show 2 * 0 + _ ≤ _; exact Nat.le_of_eq rfl) (hb hby at_217) (fun _ _ => ⟨rfl, e79, (by decide : 2 + 0 ≤ _), (by decide : 14 + 0 ≤ _)⟩)
  dsimp only [Pt.U, Pt.locs, Pt.cells, Pt.slots] at X83 l83 y83 z83 st83 hQ83
  subst l83 y83 z83
  obtain ⟨ch83, rfl, hd83, hc83, Nq83, eq83⟩ := hQ83
  have N83 := Fr.app N76 Nq83
  refine own_cs [(.int ch83), (.int (0 : Int32)), (.ref b79)] 220 st83 ?_
  obtain ⟨cl84, Ar84, q84, S84, Nn84, H84, G84⟩ := (id V79)
  have hin84 : ¬ ((0 : Int32) < 0 ∨ cl84.slots.size ≤ ((0 : Int32)).toNatClampNeg) := inb_of S84 ⟨by decide, by decide⟩
  obtain ⟨T85, h85, X85, e85, W85, st85⟩ := stC X83 hx hZ eq83 Ar84 (j := (0 : Int32)) hin84 (g := (mkF m 220 L_81 [(.int ch83), (.int (0 : Int32)), (.ref b79)])) rfl rfl (hb hby at_220)
  have V85 := Arv.set Ar84 q84 S84 Nn84 H84 G84 (fits_nar_char _) W85 0 rfl (Nat.le_of_ble_eq_true rfl)
  have N85 := Fr.snoc X85 N83 ge79
  have O85 := Old.wr O79 W85 ge79
  have Z85 : n0 ≤ h85.size := Nat.le_trans Z79 (Nat.le_of_eq W85.size.symm)
  have V85' : Arv Z h85 b79 k79 .char (8 : Int32) [(.int ch83), (.int (0 : Int32)), (.int (0 : Int32)), (.int (0 : Int32)), (.int (0 : Int32)), (.int (0 : Int32)), (.int (0 : Int32)), (.int (0 : Int32))] (.int (0 : Int32)) := by have q := V85; first | (rw [own_narc (own_up hc83)] at q; exact q) | (rw [own_i2c (own_up hc83)] at q; exact q)
  refine own_cs [] 221 st85 ?_
  refine own_tp (.ref b79) 223 (fun _ q => XS.aload X85.here hx rfl (hb hby at_221) rfl rfl q) ?_
  refine own_tp (.int (1 : Int32)) 224 (fun _ q => XS.iconst X85.here hx rfl (hb hby at_223) q) ?_
  refine own_tp (.ref b52) 226 (fun _ q => XS.aload X85.here hx rfl (hb hby at_224) rfl rfl q) ?_
  refine own_tp (.int ch74) 228 (fun _ q => XS.iload X85.here hx rfl (hb hby at_226) rfl q) ?_
  refine own_tp (.int ch76) 230 (fun _ q => XS.iload X85.here hx rfl (hb hby at_228) rfl q) ?_
  refine own_tp (.int kk) 232 (fun _ q => XS.iload X85.here hx rfl (hb hby at_230) rfl q) ?_
  refine own_tp (.int (1 : Int32)) 233 (fun _ q => XS.iconst X85.here hx rfl (hb hby at_232) q) ?_
  have f86 := (f82.other W85 ne80)
  obtain ⟨_, _, ⟨T87, L87, k87, n87⟩, -, X87, ⟨Lc87, hQ87, l87, y87, z87⟩, st87⟩ := Jvm.LawKit.callS X85 hx (y := (⟨"com/example/cited_experts/citedexperts/EmailAddressHostEndPinLaw", "slot", "([CCCII)C"⟩ : MethodName)) hown (mvT hZ (own_w hw 8 rfl)) (mvT hZ (own_w hw 9 rfl)) (mvT hZ (own_w hw 5 rfl)) (mvT hZ (own_w hw 10 rfl)) (by decide) (backOf (W := 2) (rm31 l Z a0 hw [] b52 k52 ch74 ch76 kk ch54 ch57 ch60 ch64 ch67 ch70 h85 n0 hk f86 hc74 hc76 hc54 hc57 hc60 hc64 hc67 hc70) hZ (own_w hw 10 rfl) (own_w hw 5 rfl) (by decide) (by decide)) (g := (mkF m 233 L_81 [(.int (1 : Int32)), (.int kk), (.int ch76), (.int ch74), (.ref b52), (.int (1 : Int32)), (.ref b79)])) rfl (by rw [hml]; rfl) (argsL := [(.ref b52), (.int ch74), (.int ch76), (.int kk), (.int (1 : Int32))]) (rest := [(.int (1 : Int32)), (.ref b79)]) (lenOf pd5 rfl) rfl (by show 2 * 0 + _ ≤ _; exact Nat.le_of_eq rfl) (hb hby at_233) (fun _ _ => ⟨rfl, e85, (by decide : 2 + 0 ≤ _), (by decide : 14 + 0 ≤ _)⟩)
  dsimp only [Pt.U, Pt.locs, Pt.cells, Pt.slots] at X87 l87 y87 z87 st87 hQ87
  subst l87 y87 z87
  obtain ⟨ch87, rfl, hd87, hc87, Nq87, eq87⟩ := hQ87
  have N87 := Fr.app N85 Nq87
  refine own_cs [(.int ch87), (.int (1 : Int32)), (.ref b79)] 236 st87 ?_
  obtain ⟨cl88, Ar88, q88, S88, Nn88, H88, G88⟩ := (id V85')
  have hin88 : ¬ ((1 : Int32) < 0 ∨ cl88.slots.size ≤ ((1 : Int32)).toNatClampNeg) := inb_of S88 ⟨by decide, by decide⟩
  obtain ⟨T89, h89, X89, e89, W89, st89⟩ := stC X87 hx hZ eq87 Ar88 (j := (1 : Int32)) hin88 (g := (mkF m 236 L_81 [(.int ch87), (.int (1 : Int32)), (.ref b79)])) rfl rfl (hb hby at_236)
  have V89 := Arv.set Ar88 q88 S88 Nn88 H88 G88 (fits_nar_char _) W89 1 rfl (Nat.le_of_ble_eq_true rfl)
  have N89 := Fr.snoc X89 N87 ge79
  have O89 := Old.wr O85 W89 ge79
  have Z89 : n0 ≤ h89.size := Nat.le_trans Z85 (Nat.le_of_eq W89.size.symm)
  have V89' : Arv Z h89 b79 k79 .char (8 : Int32) [(.int ch83), (.int ch87), (.int (0 : Int32)), (.int (0 : Int32)), (.int (0 : Int32)), (.int (0 : Int32)), (.int (0 : Int32)), (.int (0 : Int32))] (.int (0 : Int32)) := by have q := V89; first | (rw [own_narc (own_up hc87)] at q; exact q) | (rw [own_i2c (own_up hc87)] at q; exact q)
  refine own_cs [] 237 st89 ?_
  refine own_tp (.ref b79) 239 (fun _ q => XS.aload X89.here hx rfl (hb hby at_237) rfl rfl q) ?_
  refine own_tp (.int (2 : Int32)) 240 (fun _ q => XS.iconst X89.here hx rfl (hb hby at_239) q) ?_
  refine own_tp (.ref b52) 242 (fun _ q => XS.aload X89.here hx rfl (hb hby at_240) rfl rfl q) ?_
  refine own_tp (.int ch74) 244 (fun _ q => XS.iload X89.here hx rfl (hb hby at_242) rfl q) ?_
  refine own_tp (.int ch76) 246 (fun _ q => XS.iload X89.here hx rfl (hb hby at_244) rfl q) ?_
  refine own_tp (.int kk) 248 (fun _ q => XS.iload X89.here hx rfl (hb hby at_246) rfl q) ?_
  refine own_tp (.int (2 : Int32)) 249 (fun _ q => XS.iconst X89.here hx rfl (hb hby at_248) q) ?_
  have f90 := (f86.other W89 ne80)
  obtain ⟨_, _, ⟨T91, L91, k91, n91⟩, -, X91, ⟨Lc91, hQ91, l91, y91, z91⟩, st91⟩ := Jvm.LawKit.callS X89 hx (y := (⟨"com/example/cited_experts/citedexperts/EmailAddressHostEndPinLaw", "slot", "([CCCII)C"⟩ : MethodName)) hown (mvT hZ (own_w hw 8 rfl)) (mvT hZ (own_w hw 9 rfl)) (mvT hZ (own_w hw 5 rfl)) (mvT hZ (own_w hw 10 rfl)) (by decide) (backOf (W := 2) (rm32 l Z a0 hw [] b52 k52 ch74 ch76 kk ch54 ch57 ch60 ch64 ch67 ch70 h89 n0 hk f90 hc74 hc76 hc54 hc57 hc60 hc64 hc67 hc70) hZ (own_w hw 10 rfl) (own_w hw 5 rfl) (by decide) (by decide)) (g := (mkF m 249 L_81 [(.int (2 : Int32)), (.int kk), (.int ch76), (.int ch74), (.ref b52), (.int (2 : Int32)), (.ref b79)])) rfl (by rw [hml]; rfl) (argsL := [(.ref b52), (.int ch74), (.int ch76), (.int kk), (.int (2 : Int32))]) (rest := [(.int (2 : Int32)), (.ref b79)]) (lenOf pd5 rfl) rfl (by show 2 * 0 + _ ≤ _; exact Nat.le_of_eq rfl) (hb hby at_249) (fun _ _ => ⟨rfl, e89, (by decide : 2 + 0 ≤ _), (by decide : 14 + 0 ≤ _)⟩)
  dsimp only [Pt.U, Pt.locs, Pt.cells, Pt.slots] at X91 l91 y91 z91 st91 hQ91
  subst l91 y91 z91
  obtain ⟨ch91, rfl, hd91, hc91, Nq91, eq91⟩ := hQ91
  have N91 := Fr.app N89 Nq91
  refine own_cs [(.int ch91), (.int (2 : Int32)), (.ref b79)] 252 st91 ?_
  obtain ⟨cl92, Ar92, q92, S92, Nn92, H92, G92⟩ := (id V89')
  have hin92 : ¬ ((2 : Int32) < 0 ∨ cl92.slots.size ≤ ((2 : Int32)).toNatClampNeg) := inb_of S92 ⟨by decide, by decide⟩
  obtain ⟨T93, h93, X93, e93, W93, st93⟩ := stC X91 hx hZ eq91 Ar92 (j := (2 : Int32)) hin92 (g := (mkF m 252 L_81 [(.int ch91), (.int (2 : Int32)), (.ref b79)])) rfl rfl (hb hby at_252)
  have V93 := Arv.set Ar92 q92 S92 Nn92 H92 G92 (fits_nar_char _) W93 2 rfl (Nat.le_of_ble_eq_true rfl)
  have N93 := Fr.snoc X93 N91 ge79
  have O93 := Old.wr O89 W93 ge79
  have Z93 : n0 ≤ h93.size := Nat.le_trans Z89 (Nat.le_of_eq W93.size.symm)
  have V93' : Arv Z h93 b79 k79 .char (8 : Int32) [(.int ch83), (.int ch87), (.int ch91), (.int (0 : Int32)), (.int (0 : Int32)), (.int (0 : Int32)), (.int (0 : Int32)), (.int (0 : Int32))] (.int (0 : Int32)) := by have q := V93; first | (rw [own_narc (own_up hc91)] at q; exact q) | (rw [own_i2c (own_up hc91)] at q; exact q)
  refine own_cs [] 253 st93 ?_
  refine own_tp (.ref b79) 255 (fun _ q => XS.aload X93.here hx rfl (hb hby at_253) rfl rfl q) ?_
  refine own_tp (.int (3 : Int32)) 256 (fun _ q => XS.iconst X93.here hx rfl (hb hby at_255) q) ?_
  refine own_tp (.ref b52) 258 (fun _ q => XS.aload X93.here hx rfl (hb hby at_256) rfl rfl q) ?_
  refine own_tp (.int ch74) 260 (fun _ q => XS.iload X93.here hx rfl (hb hby at_258) rfl q) ?_
  refine own_tp (.int ch76) 262 (fun _ q => XS.iload X93.here hx rfl (hb hby at_260) rfl q) ?_
  refine own_tp (.int kk) 264 (fun _ q => XS.iload X93.here hx rfl (hb hby at_262) rfl q) ?_
  refine own_tp (.int (3 : Int32)) 265 (fun _ q => XS.iconst X93.here hx rfl (hb hby at_264) q) ?_
  obtain ⟨Lz94, Xz94, Nz94⟩ : ∃ Lz, Stand p l e room_1 s m #[(.long q0), (.long q1), (.int p2), (.int p3)] below meth c T93 Lz 2 14 ∧ Fr n0 Lz := ⟨_, X93, N93⟩
  have f95 := (f90.other W93 ne80)
  obtain ⟨_, _, ⟨T96, L96, k96, n96⟩, -, X96, ⟨Lc96, hQ96, l96, y96, z96⟩, st96⟩ := Jvm.LawKit.callS Xz94 hx (y := (⟨"com/example/cited_experts/citedexperts/EmailAddressHostEndPinLaw", "slot", "([CCCII)C"⟩ : MethodName)) hown (mvT hZ (own_w hw 8 rfl)) (mvT hZ (own_w hw 9 rfl)) (mvT hZ (own_w hw 5 rfl)) (mvT hZ (own_w hw 10 rfl)) (by decide) (backOf (W := 2) (rm33 l Z a0 hw [] b52 k52 ch74 ch76 kk ch54 ch57 ch60 ch64 ch67 ch70 h93 n0 hk f95 hc74 hc76 hc54 hc57 hc60 hc64 hc67 hc70) hZ (own_w hw 10 rfl) (own_w hw 5 rfl) (by decide) (by decide)) (g := (mkF m 265 L_81 [(.int (3 : Int32)), (.int kk), (.int ch76), (.int ch74), (.ref b52), (.int (3 : Int32)), (.ref b79)])) rfl (by rw [hml]; rfl) (argsL := [(.ref b52), (.int ch74), (.int ch76), (.int kk), (.int (3 : Int32))]) (rest := [(.int (3 : Int32)), (.ref b79)]) (lenOf pd5 rfl) rfl (by show 2 * 0 + _ ≤ _; exact Nat.le_of_eq rfl) (hb hby at_265) (fun _ _ => ⟨rfl, e93, (by decide : 2 + 0 ≤ _), (by decide : 14 + 0 ≤ _)⟩)
  dsimp only [Pt.U, Pt.locs, Pt.cells, Pt.slots] at X96 l96 y96 z96 st96 hQ96
  subst l96 y96 z96
  obtain ⟨ch96, rfl, hd96, hc96, Nq96, eq96⟩ := hQ96
  have N96 := Fr.app Nz94 Nq96
  refine own_cs [(.int ch96), (.int (3 : Int32)), (.ref b79)] 268 st96 ?_
  obtain ⟨cl97, Ar97, q97, S97, Nn97, H97, G97⟩ := (id V93')
  have hin97 : ¬ ((3 : Int32) < 0 ∨ cl97.slots.size ≤ ((3 : Int32)).toNatClampNeg) := inb_of S97 ⟨by decide, by decide⟩
  obtain ⟨T98, h98, X98, e98, W98, st98⟩ := stC X96 hx hZ eq96 Ar97 (j := (3 : Int32)) hin97 (g := (mkF m 268 L_81 [(.int ch96), (.int (3 : Int32)), (.ref b79)])) rfl rfl (hb hby at_268)
  have V98 := Arv.set Ar97 q97 S97 Nn97 H97 G97 (fits_nar_char _) W98 3 rfl (Nat.le_of_ble_eq_true rfl)
  have N98 := Fr.snoc X98 N96 ge79
  have O98 := Old.wr O93 W98 ge79
  have Z98 : n0 ≤ h98.size := Nat.le_trans Z93 (Nat.le_of_eq W98.size.symm)
  have V98' : Arv Z h98 b79 k79 .char (8 : Int32) [(.int ch83), (.int ch87), (.int ch91), (.int ch96), (.int (0 : Int32)), (.int (0 : Int32)), (.int (0 : Int32)), (.int (0 : Int32))] (.int (0 : Int32)) := by have q := V98; first | (rw [own_narc (own_up hc96)] at q; exact q) | (rw [own_i2c (own_up hc96)] at q; exact q)
  refine own_cs [] 269 st98 ?_
  refine own_tp (.ref b79) 271 (fun _ q => XS.aload X98.here hx rfl (hb hby at_269) rfl rfl q) ?_
  refine own_tp (.int (4 : Int32)) 272 (fun _ q => XS.iconst X98.here hx rfl (hb hby at_271) q) ?_
  refine own_tp (.ref b52) 274 (fun _ q => XS.aload X98.here hx rfl (hb hby at_272) rfl rfl q) ?_
  refine own_tp (.int ch74) 276 (fun _ q => XS.iload X98.here hx rfl (hb hby at_274) rfl q) ?_
  refine own_tp (.int ch76) 278 (fun _ q => XS.iload X98.here hx rfl (hb hby at_276) rfl q) ?_
  refine own_tp (.int kk) 280 (fun _ q => XS.iload X98.here hx rfl (hb hby at_278) rfl q) ?_
  refine own_tp (.int (4 : Int32)) 281 (fun _ q => XS.iconst X98.here hx rfl (hb hby at_280) q) ?_
  have f99 := (f95.other W98 ne80)
  obtain ⟨_, _, ⟨T100, L100, k100, n100⟩, -, X100, ⟨Lc100, hQ100, l100, y100, z100⟩, st100⟩ := Jvm.LawKit.callS X98 hx (y := (⟨"com/example/cited_experts/citedexperts/EmailAddressHostEndPinLaw", "slot", "([CCCII)C"⟩ : MethodName)) hown (mvT hZ (own_w hw 8 rfl)) (mvT hZ (own_w hw 9 rfl)) (mvT hZ (own_w hw 5 rfl)) (mvT hZ (own_w hw 10 rfl)) (by decide) (backOf (W := 2) (rm34 l Z a0 hw [] b52 k52 ch74 ch76 kk ch54 ch57 ch60 ch64 ch67 ch70 h98 n0 hk f99 hc74 hc76 hc54 hc57 hc60 hc64 hc67 hc70) hZ (own_w hw 10 rfl) (own_w hw 5 rfl) (by decide) (by decide)) (g := (mkF m 281 L_81 [(.int (4 : Int32)), (.int kk), (.int ch76), (.int ch74), (.ref b52), (.int (4 : Int32)), (.ref b79)])) rfl (by rw [hml]; rfl) (argsL := [(.ref b52), (.int ch74), (.int ch76), (.int kk), (.int (4 : Int32))]) (rest := [(.int (4 : Int32)), (.ref b79)]) (lenOf pd5 rfl) rfl (by show 2 * 0 + _ ≤ _; exact Nat.le_of_eq rfl) (hb hby at_281) (fun _ _ => ⟨rfl, e98, (by decide : 2 + 0 ≤ _), (by decide : 14 + 0 ≤ _)⟩)
  dsimp only [Pt.U, Pt.locs, Pt.cells, Pt.slots] at X100 l100 y100 z100 st100 hQ100
  subst l100 y100 z100
  obtain ⟨ch100, rfl, hd100, hc100, Nq100, eq100⟩ := hQ100
  have N100 := Fr.app N98 Nq100
  refine own_cs [(.int ch100), (.int (4 : Int32)), (.ref b79)] 284 st100 ?_
  obtain ⟨cl101, Ar101, q101, S101, Nn101, H101, G101⟩ := (id V98')
  have hin101 : ¬ ((4 : Int32) < 0 ∨ cl101.slots.size ≤ ((4 : Int32)).toNatClampNeg) := inb_of S101 ⟨by decide, by decide⟩
  obtain ⟨T102, h102, X102, e102, W102, st102⟩ := stC X100 hx hZ eq100 Ar101 (j := (4 : Int32)) hin101 (g := (mkF m 284 L_81 [(.int ch100), (.int (4 : Int32)), (.ref b79)])) rfl rfl (hb hby at_284)
  have V102 := Arv.set Ar101 q101 S101 Nn101 H101 G101 (fits_nar_char _) W102 4 rfl (Nat.le_of_ble_eq_true rfl)
  have N102 := Fr.snoc X102 N100 ge79
  have O102 := Old.wr O98 W102 ge79
  have Z102 : n0 ≤ h102.size := Nat.le_trans Z98 (Nat.le_of_eq W102.size.symm)
  have V102' : Arv Z h102 b79 k79 .char (8 : Int32) [(.int ch83), (.int ch87), (.int ch91), (.int ch96), (.int ch100), (.int (0 : Int32)), (.int (0 : Int32)), (.int (0 : Int32))] (.int (0 : Int32)) := by have q := V102; first | (rw [own_narc (own_up hc100)] at q; exact q) | (rw [own_i2c (own_up hc100)] at q; exact q)
  refine own_cs [] 285 st102 ?_
  refine own_tp (.ref b79) 287 (fun _ q => XS.aload X102.here hx rfl (hb hby at_285) rfl rfl q) ?_
  refine own_tp (.int (5 : Int32)) 288 (fun _ q => XS.iconst X102.here hx rfl (hb hby at_287) q) ?_
  refine own_tp (.ref b52) 290 (fun _ q => XS.aload X102.here hx rfl (hb hby at_288) rfl rfl q) ?_
  refine own_tp (.int ch74) 292 (fun _ q => XS.iload X102.here hx rfl (hb hby at_290) rfl q) ?_
  refine own_tp (.int ch76) 294 (fun _ q => XS.iload X102.here hx rfl (hb hby at_292) rfl q) ?_
  refine own_tp (.int kk) 296 (fun _ q => XS.iload X102.here hx rfl (hb hby at_294) rfl q) ?_
  refine own_tp (.int (5 : Int32)) 297 (fun _ q => XS.iconst X102.here hx rfl (hb hby at_296) q) ?_
  have f103 := (f99.other W102 ne80)
  obtain ⟨_, _, ⟨T104, L104, k104, n104⟩, -, X104, ⟨Lc104, hQ104, l104, y104, z104⟩, st104⟩ := Jvm.LawKit.callS X102 hx (y := (⟨"com/example/cited_experts/citedexperts/EmailAddressHostEndPinLaw", "slot", "([CCCII)C"⟩ : MethodName)) hown (mvT hZ (own_w hw 8 rfl)) (mvT hZ (own_w hw 9 rfl)) (mvT hZ (own_w hw 5 rfl)) (mvT hZ (own_w hw 10 rfl)) (by decide) (backOf (W := 2) (rm35 l Z a0 hw [] b52 k52 ch74 ch76 kk ch54 ch57 ch60 ch64 ch67 ch70 h102 n0 hk f103 hc74 hc76 hc54 hc57 hc60 hc64 hc67 hc70) hZ (own_w hw 10 rfl) (own_w hw 5 rfl) (by decide) (by decide)) (g := (mkF m 297 L_81 [(.int (5 : Int32)), (.int kk), (.int ch76), (.int ch74), (.ref b52), (.int (5 : Int32)), (.ref b79)])) rfl (by rw [hml]; rfl) (argsL := [(.ref b52), (.int ch74), (.int ch76), (.int kk), (.int (5 : Int32))]) (rest := [(.int (5 : Int32)), (.ref b79)]) (lenOf pd5 rfl) rfl (by show 2 * 0 + _ ≤ _; exact Nat.le_of_eq rfl) (hb hby at_297) (fun _ _ => ⟨rfl, e102, (by decide : 2 + 0 ≤ _), (by decide : 14 + 0 ≤ _)⟩)
  dsimp only [Pt.U, Pt.locs, Pt.cells, Pt.slots] at X104 l104 y104 z104 st104 hQ104
  subst l104 y104 z104
  obtain ⟨ch104, rfl, hd104, hc104, Nq104, eq104⟩ := hQ104
  have N104 := Fr.app N102 Nq104
  refine own_cs [(.int ch104), (.int (5 : Int32)), (.ref b79)] 300 st104 ?_
  obtain ⟨cl105, Ar105, q105, S105, Nn105, H105, G105⟩ := (id V102')
  have hin105 : ¬ ((5 : Int32) < 0 ∨ cl105.slots.size ≤ ((5 : Int32)).toNatClampNeg) := inb_of S105 ⟨by decide, by decide⟩
  obtain ⟨T106, h106, X106, e106, W106, st106⟩ := stC X104 hx hZ eq104 Ar105 (j := (5 : Int32)) hin105 (g := (mkF m 300 L_81 [(.int ch104), (.int (5 : Int32)), (.ref b79)])) rfl rfl (hb hby at_300)
  have V106 := Arv.set Ar105 q105 S105 Nn105 H105 G105 (fits_nar_char _) W106 5 rfl (Nat.le_of_ble_eq_true rfl)
  have N106 := Fr.snoc X106 N104 ge79
  have O106 := Old.wr O102 W106 ge79
  have Z106 : n0 ≤ h106.size := Nat.le_trans Z102 (Nat.le_of_eq W106.size.symm)
  have V106' : Arv Z h106 b79 k79 .char (8 : Int32) [(.int ch83), (.int ch87), (.int ch91), (.int ch96), (.int ch100), (.int ch104), (.int (0 : Int32)), (.int (0 : Int32))] (.int (0 : Int32)) := by have q := V106; first | (rw [own_narc (own_up hc104)] at q; exact q) | (rw [own_i2c (own_up hc104)] at q; exact q)
  refine own_cs [] 301 st106 ?_
  refine own_tp (.ref b79) 303 (fun _ q => XS.aload X106.here hx rfl (hb hby at_301) rfl rfl q) ?_
  refine own_tp (.int (6 : Int32)) 305 (fun _ q => XS.bipush X106.here hx rfl (hb hby at_303) q) ?_
  refine own_tp (.ref b52) 307 (fun _ q => XS.aload X106.here hx rfl (hb hby at_305) rfl rfl q) ?_
  refine own_tp (.int ch74) 309 (fun _ q => XS.iload X106.here hx rfl (hb hby at_307) rfl q) ?_
  refine own_tp (.int ch76) 311 (fun _ q => XS.iload X106.here hx rfl (hb hby at_309) rfl q) ?_
  refine own_tp (.int kk) 313 (fun _ q => XS.iload X106.here hx rfl (hb hby at_311) rfl q) ?_
  refine own_tp (.int (6 : Int32)) 315 (fun _ q => XS.bipush X106.here hx rfl (hb hby at_313) q) ?_
  obtain ⟨Lz107, Xz107, Nz107⟩ : ∃ Lz, Stand p l e room_1 s m #[(.long q0), (.long q1), (.int p2), (.int p3)] below meth c T106 Lz 2 14 ∧ Fr n0 Lz := ⟨_, X106, N106⟩
  have f108 := (f103.other W106 ne80)
  obtain ⟨_, _, ⟨T109, L109, k109, n109⟩, -, X109, ⟨Lc109, hQ109, l109, y109, z109⟩, st109⟩ := Jvm.LawKit.callS Xz107 hx (y := (⟨"com/example/cited_experts/citedexperts/EmailAddressHostEndPinLaw", "slot", "([CCCII)C"⟩ : MethodName)) hown (mvT hZ (own_w hw 8 rfl)) (mvT hZ (own_w hw 9 rfl)) (mvT hZ (own_w hw 5 rfl)) (mvT hZ (own_w hw 10 rfl)) (by decide) (backOf (W := 2) (rm36 l Z a0 hw [] b52 k52 ch74 ch76 kk ch54 ch57 ch60 ch64 ch67 ch70 h106 n0 hk f108 hc74 hc76 hc54 hc57 hc60 hc64 hc67 hc70) hZ (own_w hw 10 rfl) (own_w hw 5 rfl) (by decide) (by decide)) (g := (mkF m 315 L_81 [(.int (6 : Int32)), (.int kk), (.int ch76), (.int ch74), (.ref b52), (.int (6 : Int32)), (.ref b79)])) rfl (by rw [hml]; rfl) (argsL := [(.ref b52), (.int ch74), (.int ch76), (.int kk), (.int (6 : Int32))]) (rest := [(.int (6 : Int32)), (.ref b79)]) (lenOf pd5 rfl) rfl (by show 2 * 0 + _ ≤ _; exact Nat.le_of_eq rfl) (hb hby at_315) (fun _ _ => ⟨rfl, e106, (by decide : 2 + 0 ≤ _), (by decide : 14 + 0 ≤ _)⟩)
  dsimp only [Pt.U, Pt.locs, Pt.cells, Pt.slots] at X109 l109 y109 z109 st109 hQ109
  subst l109 y109 z109
  obtain ⟨ch109, rfl, hd109, hc109, Nq109, eq109⟩ := hQ109
  have N109 := Fr.app Nz107 Nq109
  refine own_cs [(.int ch109), (.int (6 : Int32)), (.ref b79)] 318 st109 ?_
  obtain ⟨cl110, Ar110, q110, S110, Nn110, H110, G110⟩ := (id V106')
  have hin110 : ¬ ((6 : Int32) < 0 ∨ cl110.slots.size ≤ ((6 : Int32)).toNatClampNeg) := inb_of S110 ⟨by decide, by decide⟩
  obtain ⟨T111, h111, X111, e111, W111, st111⟩ := stC X109 hx hZ eq109 Ar110 (j := (6 : Int32)) hin110 (g := (mkF m 318 L_81 [(.int ch109), (.int (6 : Int32)), (.ref b79)])) rfl rfl (hb hby at_318)
  have V111 := Arv.set Ar110 q110 S110 Nn110 H110 G110 (fits_nar_char _) W111 6 rfl (Nat.le_of_ble_eq_true rfl)
  have N111 := Fr.snoc X111 N109 ge79
  have O111 := Old.wr O106 W111 ge79
  have Z111 : n0 ≤ h111.size := Nat.le_trans Z106 (Nat.le_of_eq W111.size.symm)
  have V111' : Arv Z h111 b79 k79 .char (8 : Int32) [(.int ch83), (.int ch87), (.int ch91), (.int ch96), (.int ch100), (.int ch104), (.int ch109), (.int (0 : Int32))] (.int (0 : Int32)) := by have q := V111; first | (rw [own_narc (own_up hc109)] at q; exact q) | (rw [own_i2c (own_up hc109)] at q; exact q)
  refine own_cs [] 319 st111 ?_
  refine own_tp (.ref b79) 321 (fun _ q => XS.aload X111.here hx rfl (hb hby at_319) rfl rfl q) ?_
  refine own_tp (.int (7 : Int32)) 323 (fun _ q => XS.bipush X111.here hx rfl (hb hby at_321) q) ?_
  refine own_tp (.ref b52) 325 (fun _ q => XS.aload X111.here hx rfl (hb hby at_323) rfl rfl q) ?_
  refine own_tp (.int ch74) 327 (fun _ q => XS.iload X111.here hx rfl (hb hby at_325) rfl q) ?_
  refine own_tp (.int ch76) 329 (fun _ q => XS.iload X111.here hx rfl (hb hby at_327) rfl q) ?_
  refine own_tp (.int kk) 331 (fun _ q => XS.iload X111.here hx rfl (hb hby at_329) rfl q) ?_
  refine own_tp (.int (7 : Int32)) 333 (fun _ q => XS.bipush X111.here hx rfl (hb hby at_331) q) ?_
  have f112 := (f108.other W111 ne80)
  obtain ⟨_, _, ⟨T113, L113, k113, n113⟩, -, X113, ⟨Lc113, hQ113, l113, y113, z113⟩, st113⟩ := Jvm.LawKit.callS X111 hx (y := (⟨"com/example/cited_experts/citedexperts/EmailAddressHostEndPinLaw", "slot", "([CCCII)C"⟩ : MethodName)) hown (mvT hZ (own_w hw 8 rfl)) (mvT hZ (own_w hw 9 rfl)) (mvT hZ (own_w hw 5 rfl)) (mvT hZ (own_w hw 10 rfl)) (by decide) (backOf (W := 2) (rm37 l Z a0 hw [] b52 k52 ch74 ch76 kk ch54 ch57 ch60 ch64 ch67 ch70 h111 n0 hk f112 hc74 hc76 hc54 hc57 hc60 hc64 hc67 hc70) hZ (own_w hw 10 rfl) (own_w hw 5 rfl) (by decide) (by decide)) (g := (mkF m 333 L_81 [(.int (7 : Int32)), (.int kk), (.int ch76), (.int ch74), (.ref b52), (.int (7 : Int32)), (.ref b79)])) rfl (by rw [hml]; rfl) (argsL := [(.ref b52), (.int ch74), (.int ch76), (.int kk), (.int (7 : Int32))]) (rest := [(.int (7 : Int32)), (.ref b79)]) (lenOf pd5 rfl) rfl (by show 2 * 0 + _ ≤ _; exact Nat.le_of_eq rfl) (hb hby at_333) (fun _ _ => ⟨rfl, e111, (by decide : 2 + 0 ≤ _), (by decide : 14 + 0 ≤ _)⟩)
  dsimp only [Pt.U, Pt.locs, Pt.cells, Pt.slots] at X113 l113 y113 z113 st113 hQ113
  subst l113 y113 z113
  obtain ⟨ch113, rfl, hd113, hc113, Nq113, eq113⟩ := hQ113
  have N113 := Fr.app N111 Nq113
  refine own_cs [(.int ch113), (.int (7 : Int32)), (.ref b79)] 336 st113 ?_
  obtain ⟨cl114, Ar114, q114, S114, Nn114, H114, G114⟩ := (id V111')
  have hin114 : ¬ ((7 : Int32) < 0 ∨ cl114.slots.size ≤ ((7 : Int32)).toNatClampNeg) := inb_of S114 ⟨by decide, by decide⟩
  obtain ⟨T115, h115, X115, e115, W115, st115⟩ := stC X113 hx hZ eq113 Ar114 (j := (7 : Int32)) hin114 (g := (mkF m 336 L_81 [(.int ch113), (.int (7 : Int32)), (.ref b79)])) rfl rfl (hb hby at_336)
  have V115 := Arv.set Ar114 q114 S114 Nn114 H114 G114 (fits_nar_char _) W115 7 rfl (Nat.le_of_ble_eq_true rfl)
  have N115 := Fr.snoc X115 N113 ge79
  have O115 := Old.wr O111 W115 ge79
  have Z115 : n0 ≤ h115.size := Nat.le_trans Z111 (Nat.le_of_eq W115.size.symm)
  have V115' : Arv Z h115 b79 k79 .char (8 : Int32) [(.int ch83), (.int ch87), (.int ch91), (.int ch96), (.int ch100), (.int ch104), (.int ch109), (.int ch113)] (.int (0 : Int32)) := by have q := V115; first | (rw [own_narc (own_up hc113)] at q; exact q) | (rw [own_i2c (own_up hc113)] at q; exact q)
  refine own_cs [] 337 st115 ?_
  obtain ⟨T116, h116, X116, e116, E116, A116, D116, -, st116⟩ := newO X115 hx hZ hown (own_w hw 11 rfl) (own_w hw 12 rfl) (own_w hw 13 rfl) e115 (g := (mkF m 337 L_81 [])) rfl (hb hby at_337) (by decide) (by decide)
  obtain ⟨b116, g116⟩ : ∃ z, z = h115.size := ⟨_, rfl⟩
  rw [← g116] at A116 D116 st116
  have ge116 : n0 ≤ b116 := Nat.le_trans Z115 (Nat.le_of_eq g116.symm)
  have f118 := (f112.other W115 ne80)
  have ne117 : b52 ≠ b116 := Nat.ne_of_lt (Nat.lt_of_lt_of_le f118.lt (Nat.le_of_eq g116.symm))
  have ne119 : b79 ≠ b116 := Nat.ne_of_lt (Nat.lt_of_lt_of_le V115'.lt (Nat.le_of_eq g116.symm))
  have O116 := Old.ext O115 E116
  have Z116 : n0 ≤ h116.size := Nat.le_trans Z115 E116.1
  have Fcoder_116 : Fld Z h116 b116 "java/lang/String" "coder" "B" (.int (0 : Int32)) := D116 (Or.inr (own_w hw 37 rfl)) (ty := .byte) (by decide)
  have Fvalue_116 : Fld Z h116 b116 "java/lang/String" "value" "[B" .null := D116 (Or.inr (own_w hw 39 rfl)) (ty := (.array .byte)) (by decide)
  refine own_tp (.ref b116) 340 st116 ?_
  refine own_tp (.ref b116) 341 (fun _ q => XS.dup X116.here hx rfl (hb hby at_340) rfl rfl q) ?_
  refine own_tp (.ref b79) 343 (fun _ q => XS.aload X116.here hx rfl (hb hby at_341) rfl rfl q) ?_
  have hws : ∀ d ∈ StrChars.Road.words, d.before a0 Z = true := fun d hd => hw d ((by decide +kernel : ∀ d ∈ StrChars.Road.words, d ∈ tables_1) d hd)
  have hp : ∀ c ∈ ([ch83, ch87, ch91, ch96, ch100, ch104, ch109, ch113] : List Int32), ¬ c < 0 ∧ ¬ (255 : Int32) < c := by
    intro c hc
    simp only [List.mem_cons, List.not_mem_nil, or_false] at hc
    rcases hc with rfl | rfl | rfl | rfl | rfl | rfl | rfl | rfl
    · exact own_ch hc83
    · exact own_ch hc87
    · exact own_ch hc91
    · exact own_ch hc96
    · exact own_ch hc100
    · exact own_ch hc104
    · exact own_ch hc109
    · exact own_ch hc113
  have f120 := (V115'.ext E116)
  obtain ⟨_, _, ⟨T121, L121, k121, n121⟩, -, X121, ⟨Lc121, hQ121, l121, y121, z121⟩, st121⟩ := X116.specialBack hx (y := (⟨"java/lang/String", "<init>", "([C)V"⟩ : MethodName)) rfl hown (mvT hZ (own_w hw 14 rfl)) (mvT hZ (own_w hw 15 rfl)) (mvT hZ (own_w hw 16 rfl)) (by decide) (StrChars.Road.backV (W := 1) hZ hws (kI := 4) (own_w hw 12 rfl) (cs := [ch83, ch87, ch91, ch96, ch100, ch104, ch109, ch113]) (bs := [ch83, ch87, ch91, ch96, ch100, ch104, ch109, ch113].map (fun c => c.toInt8.toInt32)) (n := 8) ge116 Z116 A116 Fvalue_116 Fcoder_116 f120 (Sc.ext O116.2) P5 rfl rfl (by decide) (by decide) hp rfl (by decide) (by decide)) (g := (mkF m 343 L_81 [(.ref b79), (.ref b116), (.ref b116)])) rfl (by rw [hml]; rfl) (Steps.refl _) (a := b116) (argsL := [(.ref b79)]) (rest := [(.ref b116)]) (lenOf pd6 rfl) rfl (by show 2 * 0 + _ ≤ _; exact Nat.le_of_eq rfl) (hb hby at_343) (fun _ _ => ⟨rfl, e116, (by decide : 3 + 1 ≤ _), (by decide : 18 + 8 ≤ _)⟩)
  dsimp only [Pt.U, Pt.locs, Pt.cells, Pt.slots] at X121 l121 y121 z121 st121 hQ121
  subst l121 y121 z121
  obtain ⟨rfl, Nq121, Kp121, A121, Cd121, t121, kb121, gt121, ht121, nt121, Vl121, V121⟩ := hQ121
  have N121 := Fr.app N115 Nq121
  have O121 := Old.keep O116 Kp121 (allS ge116 all0)
  have Z121 := Nat.le_trans Z116 Kp121.1
  refine own_csR [(.ref b116)] 346 st121 ?_
  refine own_tp (.int kk) 348 (fun _ q => XS.iload X121.here hx rfl (hb hby at_346) rfl q) ?_
  obtain ⟨_, _, ⟨T122, L122, k122, n122⟩, -, X122, ⟨Lc122, hQ122, l122, y122, z122⟩, st122⟩ := Jvm.LawKit.callS X121 hx (y := (⟨"com/example/cited_experts/citedexperts/EmailAddress", "hostEnd", "(Ljava/lang/CharSequence;I)I"⟩ : MethodName)) hown (mvT hZ (own_w hw 40 rfl)) (mvT hZ (own_w hw 41 rfl)) (mvT hZ (own_w hw 42 rfl)) (mvT hZ (own_w hw 43 rfl)) (by decide) (backOf (W := 0) (rm20 l Z a0 hw [] kk T121.heap n0 hk [ch83, ch87, ch91, ch96, ch100, ch104, ch109, ch113] rfl hp b116 t121 kb121 G1 P5 O121 Sc G3 rG3 Sf A121 Cd121 Vl121 V121) hZ (own_w hw 43 rfl) (own_w hw 42 rfl) (by decide) (by decide)) (g := (mkF m 348 L_81 [(.int kk), (.ref b116)])) rfl (by rw [hml]; rfl) (argsL := [(.ref b116), (.int kk)]) (rest := []) (lenOf pd7 rfl) rfl (by show 2 * 0 + _ ≤ _; exact Nat.le_of_eq rfl) (hb hby at_348) (fun _ _ => ⟨rfl, rfl, (by decide : 4 + 0 ≤ _), (by decide : 26 + 0 ≤ _)⟩)
  dsimp only [Pt.U, Pt.locs, Pt.cells, Pt.slots] at X122 l122 y122 z122 st122 hQ122
  subst l122 y122 z122
  obtain ⟨rfl, Nq122, eq122⟩ := hQ122
  have N122 := Fr.app N121 Nq122
  refine own_t2 (.int (own_he kk [ch83, ch87, ch91, ch96, ch100, ch104, ch109, ch113])) 351 st122 ?_
  let L_123 : Array Slot := #[.val (.long q0), .second, .val (.long q1), .second, .val (.int p2), .val (.int p3), .val (.ref b52), .val (.int ch74), .val (.int ch76), .val (.int kk), .val (.ref b79), .val (.int (own_he kk [ch83, ch87, ch91, ch96, ch100, ch104, ch109, ch113])), .unset, .unset, .unset, .unset, .unset, .unset, .unset, .unset, .unset, .unset, .unset, .unset, .unset, .unset, .unset, .unset, .unset, .unset]
  refine own_ls L_123 353 (fun _ q => XS.istore X122.here hx rfl (hb hby at_351) rfl (l' := L_123) rfl q) ?_
  refine own_tp (.ref b52) 355 (fun _ q => XS.aload X122.here hx rfl (hb hby at_353) rfl rfl q) ?_
  refine own_tp (.int (1 : Int32)) 356 (fun _ q => XS.iconst X122.here hx rfl (hb hby at_355) q) ?_
  have f124 := ((f118.ext E116).keep Kp121 (ninS ne117 nin0))
  obtain ⟨cl125, Ar125, q125, S125, Nn125, H125, G125⟩ := (id f124)
  have hin125 : ¬ ((1 : Int32) < 0 ∨ cl125.slots.size ≤ ((1 : Int32)).toNatClampNeg) := inb_of S125 ⟨by decide, by decide⟩
  have hat125 : cl125.slots[((1 : Int32)).toNatClampNeg]? = some (.int ch57) := H125.at hin125 rfl
  refine own_t2 (.int ch57) 357 (fun _ q => X122.caload hx (j := (1 : Int32)) (v := (.int ch57)) (by rw [eq122]; exact Ar125.1) (State.isArrayOf_alike hZ.alike Ar125.2.1) Ar125.2.2 hin125 hat125 (g := (mkF m 356 L_123 [(.int (1 : Int32)), (.ref b52)])) rfl rfl (hb hby at_356) _ q) ?_
  obtain ⟨_, _, ⟨T126, L126, k126, n126⟩, -, X126, ⟨Lc126, hQ126, l126, y126, z126⟩, st126⟩ := Jvm.LawKit.callS X122 hx (y := (⟨"com/example/cited_experts/citedexperts/EmailAddressHostEndPinLaw", "isL", "(C)Z"⟩ : MethodName)) hown (mvT hZ (own_w hw 83 rfl)) (mvT hZ (own_w hw 84 rfl)) (mvT hZ (own_w hw 5 rfl)) (mvT hZ (own_w hw 85 rfl)) (by decide) (backOf (W := 0) (rm3 l Z a0 hw [] ch57 T121.heap n0 ) hZ (own_w hw 85 rfl) (own_w hw 5 rfl) (by decide) (by decide)) (g := (mkF m 357 L_123 [(.int ch57)])) rfl (by rw [hml]; rfl) (argsL := [(.int ch57)]) (rest := []) (lenOf pd1 rfl) rfl (by show 2 * 0 + _ ≤ _; exact Nat.le_of_eq rfl) (hb hby at_357) (fun _ _ => ⟨rfl, eq122, (by decide : 4 + 0 ≤ _), (by decide : 26 + 0 ≤ _)⟩)
  dsimp only [Pt.U, Pt.locs, Pt.cells, Pt.slots] at X126 l126 y126 z126 st126 hQ126
  subst l126 y126 z126
  obtain ⟨rfl, Nq126, eq126⟩ := hQ126
  have N126 := Fr.app N122 Nq126
  refine own_t1 (.int (own_let ch57)) 360 st126 ?_
  let L_127 : Array Slot := #[.val (.long q0), .second, .val (.long q1), .second, .val (.int p2), .val (.int p3), .val (.ref b52), .val (.int ch74), .val (.int ch76), .val (.int kk), .val (.ref b79), .val (.int (own_he kk [ch83, ch87, ch91, ch96, ch100, ch104, ch109, ch113])), .val (.int (own_let ch57)), .unset, .unset, .unset, .unset, .unset, .unset, .unset, .unset, .unset, .unset, .unset, .unset, .unset, .unset, .unset, .unset, .unset]
  refine own_ls L_127 362 (fun _ q => XS.istore X126.here hx rfl (hb hby at_360) rfl (l' := L_127) rfl q) ?_
  refine own_tp (.ref b52) 364 (fun _ q => XS.aload X126.here hx rfl (hb hby at_362) rfl rfl q) ?_
  refine own_tp (.int (2 : Int32)) 365 (fun _ q => XS.iconst X126.here hx rfl (hb hby at_364) q) ?_
  obtain ⟨cl128, Ar128, q128, S128, Nn128, H128, G128⟩ := (id f124)
  have hin128 : ¬ ((2 : Int32) < 0 ∨ cl128.slots.size ≤ ((2 : Int32)).toNatClampNeg) := inb_of S128 ⟨by decide, by decide⟩
  have hat128 : cl128.slots[((2 : Int32)).toNatClampNeg]? = some (.int ch60) := H128.at hin128 rfl
  refine own_t2 (.int ch60) 366 (fun _ q => X126.caload hx (j := (2 : Int32)) (v := (.int ch60)) (by rw [eq126]; exact Ar128.1) (State.isArrayOf_alike hZ.alike Ar128.2.1) Ar128.2.2 hin128 hat128 (g := (mkF m 365 L_127 [(.int (2 : Int32)), (.ref b52)])) rfl rfl (hb hby at_365) _ q) ?_
  obtain ⟨_, _, ⟨T129, L129, k129, n129⟩, -, X129, ⟨Lc129, hQ129, l129, y129, z129⟩, st129⟩ := Jvm.LawKit.callS X126 hx (y := (⟨"com/example/cited_experts/citedexperts/EmailAddressHostEndPinLaw", "isL", "(C)Z"⟩ : MethodName)) hown (mvT hZ (own_w hw 83 rfl)) (mvT hZ (own_w hw 84 rfl)) (mvT hZ (own_w hw 5 rfl)) (mvT hZ (own_w hw 85 rfl)) (by decide) (backOf (W := 0) (rm3 l Z a0 hw [] ch60 T121.heap n0 ) hZ (own_w hw 85 rfl) (own_w hw 5 rfl) (by decide) (by decide)) (g := (mkF m 366 L_127 [(.int ch60)])) rfl (by rw [hml]; rfl) (argsL := [(.int ch60)]) (rest := []) (lenOf pd1 rfl) rfl (by show 2 * 0 + _ ≤ _; exact Nat.le_of_eq rfl) (hb hby at_366) (fun _ _ => ⟨rfl, eq126, (by decide : 4 + 0 ≤ _), (by decide : 26 + 0 ≤ _)⟩)
  dsimp only [Pt.U, Pt.locs, Pt.cells, Pt.slots] at X129 l129 y129 z129 st129 hQ129
  subst l129 y129 z129
  obtain ⟨rfl, Nq129, eq129⟩ := hQ129
  have N129 := Fr.app N126 Nq129
  refine own_t1 (.int (own_let ch60)) 369 st129 ?_
  let L_130 : Array Slot := #[.val (.long q0), .second, .val (.long q1), .second, .val (.int p2), .val (.int p3), .val (.ref b52), .val (.int ch74), .val (.int ch76), .val (.int kk), .val (.ref b79), .val (.int (own_he kk [ch83, ch87, ch91, ch96, ch100, ch104, ch109, ch113])), .val (.int (own_let ch57)), .val (.int (own_let ch60)), .unset, .unset, .unset, .unset, .unset, .unset, .unset, .unset, .unset, .unset, .unset, .unset, .unset, .unset, .unset, .unset]
  refine own_ls L_130 371 (fun _ q => XS.istore X129.here hx rfl (hb hby at_369) rfl (l' := L_130) rfl q) ?_
  refine own_tp (.ref b52) 373 (fun _ q => XS.aload X129.here hx rfl (hb hby at_371) rfl rfl q) ?_
  refine own_tp (.int (3 : Int32)) 374 (fun _ q => XS.iconst X129.here hx rfl (hb hby at_373) q) ?_
  obtain ⟨cl131, Ar131, q131, S131, Nn131, H131, G131⟩ := (id f124)
  have hin131 : ¬ ((3 : Int32) < 0 ∨ cl131.slots.size ≤ ((3 : Int32)).toNatClampNeg) := inb_of S131 ⟨by decide, by decide⟩
  have hat131 : cl131.slots[((3 : Int32)).toNatClampNeg]? = some (.int ch64) := H131.at hin131 rfl
  refine own_t2 (.int ch64) 375 (fun _ q => X129.caload hx (j := (3 : Int32)) (v := (.int ch64)) (by rw [eq129]; exact Ar131.1) (State.isArrayOf_alike hZ.alike Ar131.2.1) Ar131.2.2 hin131 hat131 (g := (mkF m 374 L_130 [(.int (3 : Int32)), (.ref b52)])) rfl rfl (hb hby at_374) _ q) ?_
  obtain ⟨_, _, ⟨T132, L132, k132, n132⟩, -, X132, ⟨Lc132, hQ132, l132, y132, z132⟩, st132⟩ := Jvm.LawKit.callS X129 hx (y := (⟨"com/example/cited_experts/citedexperts/EmailAddressHostEndPinLaw", "isL", "(C)Z"⟩ : MethodName)) hown (mvT hZ (own_w hw 83 rfl)) (mvT hZ (own_w hw 84 rfl)) (mvT hZ (own_w hw 5 rfl)) (mvT hZ (own_w hw 85 rfl)) (by decide) (backOf (W := 0) (rm3 l Z a0 hw [] ch64 T121.heap n0 ) hZ (own_w hw 85 rfl) (own_w hw 5 rfl) (by decide) (by decide)) (g := (mkF m 375 L_130 [(.int ch64)])) rfl (by rw [hml]; rfl) (argsL := [(.int ch64)]) (rest := []) (lenOf pd1 rfl) rfl (by show 2 * 0 + _ ≤ _; exact Nat.le_of_eq rfl) (hb hby at_375) (fun _ _ => ⟨rfl, eq129, (by decide : 4 + 0 ≤ _), (by decide : 26 + 0 ≤ _)⟩)
  dsimp only [Pt.U, Pt.locs, Pt.cells, Pt.slots] at X132 l132 y132 z132 st132 hQ132
  subst l132 y132 z132
  obtain ⟨rfl, Nq132, eq132⟩ := hQ132
  have N132 := Fr.app N129 Nq132
  refine own_t1 (.int (own_let ch64)) 378 st132 ?_
  let L_133 : Array Slot := #[.val (.long q0), .second, .val (.long q1), .second, .val (.int p2), .val (.int p3), .val (.ref b52), .val (.int ch74), .val (.int ch76), .val (.int kk), .val (.ref b79), .val (.int (own_he kk [ch83, ch87, ch91, ch96, ch100, ch104, ch109, ch113])), .val (.int (own_let ch57)), .val (.int (own_let ch60)), .val (.int (own_let ch64)), .unset, .unset, .unset, .unset, .unset, .unset, .unset, .unset, .unset, .unset, .unset, .unset, .unset, .unset, .unset]
  refine own_ls L_133 380 (fun _ q => XS.istore X132.here hx rfl (hb hby at_378) rfl (l' := L_133) rfl q) ?_
  refine own_tp (.ref b52) 382 (fun _ q => XS.aload X132.here hx rfl (hb hby at_380) rfl rfl q) ?_
  refine own_tp (.int (4 : Int32)) 383 (fun _ q => XS.iconst X132.here hx rfl (hb hby at_382) q) ?_
  obtain ⟨cl134, Ar134, q134, S134, Nn134, H134, G134⟩ := (id f124)
  have hin134 : ¬ ((4 : Int32) < 0 ∨ cl134.slots.size ≤ ((4 : Int32)).toNatClampNeg) := inb_of S134 ⟨by decide, by decide⟩
  have hat134 : cl134.slots[((4 : Int32)).toNatClampNeg]? = some (.int ch67) := H134.at hin134 rfl
  refine own_t2 (.int ch67) 384 (fun _ q => X132.caload hx (j := (4 : Int32)) (v := (.int ch67)) (by rw [eq132]; exact Ar134.1) (State.isArrayOf_alike hZ.alike Ar134.2.1) Ar134.2.2 hin134 hat134 (g := (mkF m 383 L_133 [(.int (4 : Int32)), (.ref b52)])) rfl rfl (hb hby at_383) _ q) ?_
  obtain ⟨_, _, ⟨T135, L135, k135, n135⟩, -, X135, ⟨Lc135, hQ135, l135, y135, z135⟩, st135⟩ := Jvm.LawKit.callS X132 hx (y := (⟨"com/example/cited_experts/citedexperts/EmailAddressHostEndPinLaw", "isL", "(C)Z"⟩ : MethodName)) hown (mvT hZ (own_w hw 83 rfl)) (mvT hZ (own_w hw 84 rfl)) (mvT hZ (own_w hw 5 rfl)) (mvT hZ (own_w hw 85 rfl)) (by decide) (backOf (W := 0) (rm3 l Z a0 hw [] ch67 T121.heap n0 ) hZ (own_w hw 85 rfl) (own_w hw 5 rfl) (by decide) (by decide)) (g := (mkF m 384 L_133 [(.int ch67)])) rfl (by rw [hml]; rfl) (argsL := [(.int ch67)]) (rest := []) (lenOf pd1 rfl) rfl (by show 2 * 0 + _ ≤ _; exact Nat.le_of_eq rfl) (hb hby at_384) (fun _ _ => ⟨rfl, eq132, (by decide : 4 + 0 ≤ _), (by decide : 26 + 0 ≤ _)⟩)
  dsimp only [Pt.U, Pt.locs, Pt.cells, Pt.slots] at X135 l135 y135 z135 st135 hQ135
  subst l135 y135 z135
  obtain ⟨rfl, Nq135, eq135⟩ := hQ135
  have N135 := Fr.app N132 Nq135
  refine own_t1 (.int (own_let ch67)) 387 st135 ?_
  let L_136 : Array Slot := #[.val (.long q0), .second, .val (.long q1), .second, .val (.int p2), .val (.int p3), .val (.ref b52), .val (.int ch74), .val (.int ch76), .val (.int kk), .val (.ref b79), .val (.int (own_he kk [ch83, ch87, ch91, ch96, ch100, ch104, ch109, ch113])), .val (.int (own_let ch57)), .val (.int (own_let ch60)), .val (.int (own_let ch64)), .val (.int (own_let ch67)), .unset, .unset, .unset, .unset, .unset, .unset, .unset, .unset, .unset, .unset, .unset, .unset, .unset, .unset]
  refine own_ls L_136 389 (fun _ q => XS.istore X135.here hx rfl (hb hby at_387) rfl (l' := L_136) rfl q) ?_
  refine own_tp (.ref b52) 391 (fun _ q => XS.aload X135.here hx rfl (hb hby at_389) rfl rfl q) ?_
  refine own_tp (.int (5 : Int32)) 392 (fun _ q => XS.iconst X135.here hx rfl (hb hby at_391) q) ?_
  obtain ⟨cl137, Ar137, q137, S137, Nn137, H137, G137⟩ := (id f124)
  have hin137 : ¬ ((5 : Int32) < 0 ∨ cl137.slots.size ≤ ((5 : Int32)).toNatClampNeg) := inb_of S137 ⟨by decide, by decide⟩
  have hat137 : cl137.slots[((5 : Int32)).toNatClampNeg]? = some (.int ch70) := H137.at hin137 rfl
  refine own_t2 (.int ch70) 393 (fun _ q => X135.caload hx (j := (5 : Int32)) (v := (.int ch70)) (by rw [eq135]; exact Ar137.1) (State.isArrayOf_alike hZ.alike Ar137.2.1) Ar137.2.2 hin137 hat137 (g := (mkF m 392 L_136 [(.int (5 : Int32)), (.ref b52)])) rfl rfl (hb hby at_392) _ q) ?_
  obtain ⟨_, _, ⟨T138, L138, k138, n138⟩, -, X138, ⟨Lc138, hQ138, l138, y138, z138⟩, st138⟩ := Jvm.LawKit.callS X135 hx (y := (⟨"com/example/cited_experts/citedexperts/EmailAddressHostEndPinLaw", "isL", "(C)Z"⟩ : MethodName)) hown (mvT hZ (own_w hw 83 rfl)) (mvT hZ (own_w hw 84 rfl)) (mvT hZ (own_w hw 5 rfl)) (mvT hZ (own_w hw 85 rfl)) (by decide) (backOf (W := 0) (rm3 l Z a0 hw [] ch70 T121.heap n0 ) hZ (own_w hw 85 rfl) (own_w hw 5 rfl) (by decide) (by decide)) (g := (mkF m 393 L_136 [(.int ch70)])) rfl (by rw [hml]; rfl) (argsL := [(.int ch70)]) (rest := []) (lenOf pd1 rfl) rfl (by show 2 * 0 + _ ≤ _; exact Nat.le_of_eq rfl) (hb hby at_393) (fun _ _ => ⟨rfl, eq135, (by decide : 4 + 0 ≤ _), (by decide : 26 + 0 ≤ _)⟩)
  dsimp only [Pt.U, Pt.locs, Pt.cells, Pt.slots] at X138 l138 y138 z138 st138 hQ138
  subst l138 y138 z138
  obtain ⟨rfl, Nq138, eq138⟩ := hQ138
  have N138 := Fr.app N135 Nq138
  refine own_t1 (.int (own_let ch70)) 396 st138 ?_
  let L_139 : Array Slot := #[.val (.long q0), .second, .val (.long q1), .second, .val (.int p2), .val (.int p3), .val (.ref b52), .val (.int ch74), .val (.int ch76), .val (.int kk), .val (.ref b79), .val (.int (own_he kk [ch83, ch87, ch91, ch96, ch100, ch104, ch109, ch113])), .val (.int (own_let ch57)), .val (.int (own_let ch60)), .val (.int (own_let ch64)), .val (.int (own_let ch67)), .val (.int (own_let ch70)), .unset, .unset, .unset, .unset, .unset, .unset, .unset, .unset, .unset, .unset, .unset, .unset, .unset]
  refine own_ls L_139 398 (fun _ q => XS.istore X138.here hx rfl (hb hby at_396) rfl (l' := L_139) rfl q) ?_
  refine own_tp (.ref b52) 400 (fun _ q => XS.aload X138.here hx rfl (hb hby at_398) rfl rfl q) ?_
  refine own_tp (.int (0 : Int32)) 401 (fun _ q => XS.iconst X138.here hx rfl (hb hby at_400) q) ?_
  obtain ⟨cl140, Ar140, q140, S140, Nn140, H140, G140⟩ := (id f124)
  have hin140 : ¬ ((0 : Int32) < 0 ∨ cl140.slots.size ≤ ((0 : Int32)).toNatClampNeg) := inb_of S140 ⟨by decide, by decide⟩
  have hat140 : cl140.slots[((0 : Int32)).toNatClampNeg]? = some (.int ch54) := H140.at hin140 rfl
  refine own_t2 (.int ch54) 402 (fun _ q => X138.caload hx (j := (0 : Int32)) (v := (.int ch54)) (by rw [eq138]; exact Ar140.1) (State.isArrayOf_alike hZ.alike Ar140.2.1) Ar140.2.2 hin140 hat140 (g := (mkF m 401 L_139 [(.int (0 : Int32)), (.ref b52)])) rfl rfl (hb hby at_401) _ q) ?_
  refine own_tp (.int (46 : Int32)) 404 (fun _ q => XS.bipush X138.here hx rfl (hb hby at_402) q) ?_
  have kj141 : ∀ (Tj141 : State) (lj141 : List Loc) (z141 : Int32), Stand p l e room_1 s m #[(.long q0), (.long q1), (.int p2), (.int p3)] below meth c Tj141 lj141 4 26 → Fr n0 lj141 → Tj141.heap = T121.heap → z141 = own_dt ch54 → own_Goes p e below (own_FN s (Q0 h0 n0) room_1.cells room_1.slots) (Tj141.setTop (mkF m 412 #[.val (.long q0), .second, .val (.long q1), .second, .val (.int p2), .val (.int p3), .val (.ref b52), .val (.int ch74), .val (.int ch76), .val (.int kk), .val (.ref b79), .val (.int (own_he kk [ch83, ch87, ch91, ch96, ch100, ch104, ch109, ch113])), .val (.int (own_let ch57)), .val (.int (own_let ch60)), .val (.int (own_let ch64)), .val (.int (own_let ch67)), .val (.int (own_let ch70)), .unset, .unset, .unset, .unset, .unset, .unset, .unset, .unset, .unset, .unset, .unset, .unset, .unset] [(.int z141)])) := by
    intro Tj141 lj141 z141 Xj141 Nj141 ej141 hz141
    let L_142 : Array Slot := #[.val (.long q0), .second, .val (.long q1), .second, .val (.int p2), .val (.int p3), .val (.ref b52), .val (.int ch74), .val (.int ch76), .val (.int kk), .val (.ref b79), .val (.int (own_he kk [ch83, ch87, ch91, ch96, ch100, ch104, ch109, ch113])), .val (.int (own_let ch57)), .val (.int (own_let ch60)), .val (.int (own_let ch64)), .val (.int (own_let ch67)), .val (.int (own_let ch70)), .val (.int z141), .unset, .unset, .unset, .unset, .unset, .unset, .unset, .unset, .unset, .unset, .unset, .unset]
    refine own_ls L_142 414 (fun _ q => XS.istore Xj141.here hx rfl (hb hby at_412) rfl (l' := L_142) rfl q) ?_
    refine own_tp (.ref b52) 416 (fun _ q => XS.aload Xj141.here hx rfl (hb hby at_414) rfl rfl q) ?_
    refine own_tp (.int (1 : Int32)) 417 (fun _ q => XS.iconst Xj141.here hx rfl (hb hby at_416) q) ?_
    obtain ⟨cl143, Ar143, q143, S143, Nn143, H143, G143⟩ := (id f124)
    have hin143 : ¬ ((1 : Int32) < 0 ∨ cl143.slots.size ≤ ((1 : Int32)).toNatClampNeg) := inb_of S143 ⟨by decide, by decide⟩
    have hat143 : cl143.slots[((1 : Int32)).toNatClampNeg]? = some (.int ch57) := H143.at hin143 rfl
    refine own_t2 (.int ch57) 418 (fun _ q => Xj141.caload hx (j := (1 : Int32)) (v := (.int ch57)) (by rw [ej141]; exact Ar143.1) (State.isArrayOf_alike hZ.alike Ar143.2.1) Ar143.2.2 hin143 hat143 (g := (mkF m 417 L_142 [(.int (1 : Int32)), (.ref b52)])) rfl rfl (hb hby at_417) _ q) ?_
    refine own_tp (.int (46 : Int32)) 420 (fun _ q => XS.bipush Xj141.here hx rfl (hb hby at_418) q) ?_
    have kj144 : ∀ (Tj144 : State) (lj144 : List Loc) (z144 : Int32), Stand p l e room_1 s m #[(.long q0), (.long q1), (.int p2), (.int p3)] below meth c Tj144 lj144 4 26 → Fr n0 lj144 → Tj144.heap = T121.heap → z144 = own_dt ch57 → own_Goes p e below (own_FN s (Q0 h0 n0) room_1.cells room_1.slots) (Tj144.setTop (mkF m 428 #[.val (.long q0), .second, .val (.long q1), .second, .val (.int p2), .val (.int p3), .val (.ref b52), .val (.int ch74), .val (.int ch76), .val (.int kk), .val (.ref b79), .val (.int (own_he kk [ch83, ch87, ch91, ch96, ch100, ch104, ch109, ch113])), .val (.int (own_let ch57)), .val (.int (own_let ch60)), .val (.int (own_let ch64)), .val (.int (own_let ch67)), .val (.int (own_let ch70)), .val (.int z141), .unset, .unset, .unset, .unset, .unset, .unset, .unset, .unset, .unset, .unset, .unset, .unset] [(.int z144)])) := by
      intro Tj144 lj144 z144 Xj144 Nj144 ej144 hz144
      let L_145 : Array Slot := #[.val (.long q0), .second, .val (.long q1), .second, .val (.int p2), .val (.int p3), .val (.ref b52), .val (.int ch74), .val (.int ch76), .val (.int kk), .val (.ref b79), .val (.int (own_he kk [ch83, ch87, ch91, ch96, ch100, ch104, ch109, ch113])), .val (.int (own_let ch57)), .val (.int (own_let ch60)), .val (.int (own_let ch64)), .val (.int (own_let ch67)), .val (.int (own_let ch70)), .val (.int z141), .val (.int z144), .unset, .unset, .unset, .unset, .unset, .unset, .unset, .unset, .unset, .unset, .unset]
      refine own_ls L_145 430 (fun _ q => XS.istore Xj144.here hx rfl (hb hby at_428) rfl (l' := L_145) rfl q) ?_
      refine own_tp (.ref b52) 432 (fun _ q => XS.aload Xj144.here hx rfl (hb hby at_430) rfl rfl q) ?_
      refine own_tp (.int (2 : Int32)) 433 (fun _ q => XS.iconst Xj144.here hx rfl (hb hby at_432) q) ?_
      obtain ⟨cl146, Ar146, q146, S146, Nn146, H146, G146⟩ := (id f124)
      have hin146 : ¬ ((2 : Int32) < 0 ∨ cl146.slots.size ≤ ((2 : Int32)).toNatClampNeg) := inb_of S146 ⟨by decide, by decide⟩
      have hat146 : cl146.slots[((2 : Int32)).toNatClampNeg]? = some (.int ch60) := H146.at hin146 rfl
      refine own_t2 (.int ch60) 434 (fun _ q => Xj144.caload hx (j := (2 : Int32)) (v := (.int ch60)) (by rw [ej144]; exact Ar146.1) (State.isArrayOf_alike hZ.alike Ar146.2.1) Ar146.2.2 hin146 hat146 (g := (mkF m 433 L_145 [(.int (2 : Int32)), (.ref b52)])) rfl rfl (hb hby at_433) _ q) ?_
      refine own_tp (.int (46 : Int32)) 436 (fun _ q => XS.bipush Xj144.here hx rfl (hb hby at_434) q) ?_
      have kj147 : ∀ (Tj147 : State) (lj147 : List Loc) (z147 : Int32), Stand p l e room_1 s m #[(.long q0), (.long q1), (.int p2), (.int p3)] below meth c Tj147 lj147 4 26 → Fr n0 lj147 → Tj147.heap = T121.heap → z147 = own_dt ch60 → own_Goes p e below (own_FN s (Q0 h0 n0) room_1.cells room_1.slots) (Tj147.setTop (mkF m 444 #[.val (.long q0), .second, .val (.long q1), .second, .val (.int p2), .val (.int p3), .val (.ref b52), .val (.int ch74), .val (.int ch76), .val (.int kk), .val (.ref b79), .val (.int (own_he kk [ch83, ch87, ch91, ch96, ch100, ch104, ch109, ch113])), .val (.int (own_let ch57)), .val (.int (own_let ch60)), .val (.int (own_let ch64)), .val (.int (own_let ch67)), .val (.int (own_let ch70)), .val (.int z141), .val (.int z144), .unset, .unset, .unset, .unset, .unset, .unset, .unset, .unset, .unset, .unset, .unset] [(.int z147)])) := by
        intro Tj147 lj147 z147 Xj147 Nj147 ej147 hz147
        let L_148 : Array Slot := #[.val (.long q0), .second, .val (.long q1), .second, .val (.int p2), .val (.int p3), .val (.ref b52), .val (.int ch74), .val (.int ch76), .val (.int kk), .val (.ref b79), .val (.int (own_he kk [ch83, ch87, ch91, ch96, ch100, ch104, ch109, ch113])), .val (.int (own_let ch57)), .val (.int (own_let ch60)), .val (.int (own_let ch64)), .val (.int (own_let ch67)), .val (.int (own_let ch70)), .val (.int z141), .val (.int z144), .val (.int z147), .unset, .unset, .unset, .unset, .unset, .unset, .unset, .unset, .unset, .unset]
        refine own_ls L_148 446 (fun _ q => XS.istore Xj147.here hx rfl (hb hby at_444) rfl (l' := L_148) rfl q) ?_
        refine own_tp (.ref b52) 448 (fun _ q => XS.aload Xj147.here hx rfl (hb hby at_446) rfl rfl q) ?_
        refine own_tp (.int (3 : Int32)) 449 (fun _ q => XS.iconst Xj147.here hx rfl (hb hby at_448) q) ?_
        obtain ⟨cl149, Ar149, q149, S149, Nn149, H149, G149⟩ := (id f124)
        have hin149 : ¬ ((3 : Int32) < 0 ∨ cl149.slots.size ≤ ((3 : Int32)).toNatClampNeg) := inb_of S149 ⟨by decide, by decide⟩
        have hat149 : cl149.slots[((3 : Int32)).toNatClampNeg]? = some (.int ch64) := H149.at hin149 rfl
        refine own_t2 (.int ch64) 450 (fun _ q => Xj147.caload hx (j := (3 : Int32)) (v := (.int ch64)) (by rw [ej147]; exact Ar149.1) (State.isArrayOf_alike hZ.alike Ar149.2.1) Ar149.2.2 hin149 hat149 (g := (mkF m 449 L_148 [(.int (3 : Int32)), (.ref b52)])) rfl rfl (hb hby at_449) _ q) ?_
        refine own_tp (.int (46 : Int32)) 452 (fun _ q => XS.bipush Xj147.here hx rfl (hb hby at_450) q) ?_
        have kj150 : ∀ (Tj150 : State) (lj150 : List Loc) (z150 : Int32), Stand p l e room_1 s m #[(.long q0), (.long q1), (.int p2), (.int p3)] below meth c Tj150 lj150 4 26 → Fr n0 lj150 → Tj150.heap = T121.heap → z150 = own_dt ch64 → own_Goes p e below (own_FN s (Q0 h0 n0) room_1.cells room_1.slots) (Tj150.setTop (mkF m 460 #[.val (.long q0), .second, .val (.long q1), .second, .val (.int p2), .val (.int p3), .val (.ref b52), .val (.int ch74), .val (.int ch76), .val (.int kk), .val (.ref b79), .val (.int (own_he kk [ch83, ch87, ch91, ch96, ch100, ch104, ch109, ch113])), .val (.int (own_let ch57)), .val (.int (own_let ch60)), .val (.int (own_let ch64)), .val (.int (own_let ch67)), .val (.int (own_let ch70)), .val (.int z141), .val (.int z144), .val (.int z147), .unset, .unset, .unset, .unset, .unset, .unset, .unset, .unset, .unset, .unset] [(.int z150)])) := by
          intro Tj150 lj150 z150 Xj150 Nj150 ej150 hz150
          let L_151 : Array Slot := #[.val (.long q0), .second, .val (.long q1), .second, .val (.int p2), .val (.int p3), .val (.ref b52), .val (.int ch74), .val (.int ch76), .val (.int kk), .val (.ref b79), .val (.int (own_he kk [ch83, ch87, ch91, ch96, ch100, ch104, ch109, ch113])), .val (.int (own_let ch57)), .val (.int (own_let ch60)), .val (.int (own_let ch64)), .val (.int (own_let ch67)), .val (.int (own_let ch70)), .val (.int z141), .val (.int z144), .val (.int z147), .val (.int z150), .unset, .unset, .unset, .unset, .unset, .unset, .unset, .unset, .unset]
          refine own_ls L_151 462 (fun _ q => XS.istore Xj150.here hx rfl (hb hby at_460) rfl (l' := L_151) rfl q) ?_
          refine own_tp (.ref b52) 464 (fun _ q => XS.aload Xj150.here hx rfl (hb hby at_462) rfl rfl q) ?_
          refine own_tp (.int (4 : Int32)) 465 (fun _ q => XS.iconst Xj150.here hx rfl (hb hby at_464) q) ?_
          obtain ⟨cl152, Ar152, q152, S152, Nn152, H152, G152⟩ := (id f124)
          have hin152 : ¬ ((4 : Int32) < 0 ∨ cl152.slots.size ≤ ((4 : Int32)).toNatClampNeg) := inb_of S152 ⟨by decide, by decide⟩
          have hat152 : cl152.slots[((4 : Int32)).toNatClampNeg]? = some (.int ch67) := H152.at hin152 rfl
          refine own_t2 (.int ch67) 466 (fun _ q => Xj150.caload hx (j := (4 : Int32)) (v := (.int ch67)) (by rw [ej150]; exact Ar152.1) (State.isArrayOf_alike hZ.alike Ar152.2.1) Ar152.2.2 hin152 hat152 (g := (mkF m 465 L_151 [(.int (4 : Int32)), (.ref b52)])) rfl rfl (hb hby at_465) _ q) ?_
          refine own_tp (.int (46 : Int32)) 468 (fun _ q => XS.bipush Xj150.here hx rfl (hb hby at_466) q) ?_
          have kj153 : ∀ (Tj153 : State) (lj153 : List Loc) (z153 : Int32), Stand p l e room_1 s m #[(.long q0), (.long q1), (.int p2), (.int p3)] below meth c Tj153 lj153 4 26 → Fr n0 lj153 → Tj153.heap = T121.heap → z153 = own_dt ch67 → own_Goes p e below (own_FN s (Q0 h0 n0) room_1.cells room_1.slots) (Tj153.setTop (mkF m 476 #[.val (.long q0), .second, .val (.long q1), .second, .val (.int p2), .val (.int p3), .val (.ref b52), .val (.int ch74), .val (.int ch76), .val (.int kk), .val (.ref b79), .val (.int (own_he kk [ch83, ch87, ch91, ch96, ch100, ch104, ch109, ch113])), .val (.int (own_let ch57)), .val (.int (own_let ch60)), .val (.int (own_let ch64)), .val (.int (own_let ch67)), .val (.int (own_let ch70)), .val (.int z141), .val (.int z144), .val (.int z147), .val (.int z150), .unset, .unset, .unset, .unset, .unset, .unset, .unset, .unset, .unset] [(.int z153)])) := by
            intro Tj153 lj153 z153 Xj153 Nj153 ej153 hz153
            let L_154 : Array Slot := #[.val (.long q0), .second, .val (.long q1), .second, .val (.int p2), .val (.int p3), .val (.ref b52), .val (.int ch74), .val (.int ch76), .val (.int kk), .val (.ref b79), .val (.int (own_he kk [ch83, ch87, ch91, ch96, ch100, ch104, ch109, ch113])), .val (.int (own_let ch57)), .val (.int (own_let ch60)), .val (.int (own_let ch64)), .val (.int (own_let ch67)), .val (.int (own_let ch70)), .val (.int z141), .val (.int z144), .val (.int z147), .val (.int z150), .val (.int z153), .unset, .unset, .unset, .unset, .unset, .unset, .unset, .unset]
            refine own_ls L_154 478 (fun _ q => XS.istore Xj153.here hx rfl (hb hby at_476) rfl (l' := L_154) rfl q) ?_
            refine own_tp (.ref b52) 480 (fun _ q => XS.aload Xj153.here hx rfl (hb hby at_478) rfl rfl q) ?_
            refine own_tp (.int (5 : Int32)) 481 (fun _ q => XS.iconst Xj153.here hx rfl (hb hby at_480) q) ?_
            obtain ⟨cl155, Ar155, q155, S155, Nn155, H155, G155⟩ := (id f124)
            have hin155 : ¬ ((5 : Int32) < 0 ∨ cl155.slots.size ≤ ((5 : Int32)).toNatClampNeg) := inb_of S155 ⟨by decide, by decide⟩
            have hat155 : cl155.slots[((5 : Int32)).toNatClampNeg]? = some (.int ch70) := H155.at hin155 rfl
            refine own_t2 (.int ch70) 482 (fun _ q => Xj153.caload hx (j := (5 : Int32)) (v := (.int ch70)) (by rw [ej153]; exact Ar155.1) (State.isArrayOf_alike hZ.alike Ar155.2.1) Ar155.2.2 hin155 hat155 (g := (mkF m 481 L_154 [(.int (5 : Int32)), (.ref b52)])) rfl rfl (hb hby at_481) _ q) ?_
            refine own_tp (.int (46 : Int32)) 484 (fun _ q => XS.bipush Xj153.here hx rfl (hb hby at_482) q) ?_
            have kj156 : ∀ (Tj156 : State) (lj156 : List Loc) (z156 : Int32), Stand p l e room_1 s m #[(.long q0), (.long q1), (.int p2), (.int p3)] below meth c Tj156 lj156 4 26 → Fr n0 lj156 → Tj156.heap = T121.heap → z156 = own_dt ch70 → own_Goes p e below (own_FN s (Q0 h0 n0) room_1.cells room_1.slots) (Tj156.setTop (mkF m 492 #[.val (.long q0), .second, .val (.long q1), .second, .val (.int p2), .val (.int p3), .val (.ref b52), .val (.int ch74), .val (.int ch76), .val (.int kk), .val (.ref b79), .val (.int (own_he kk [ch83, ch87, ch91, ch96, ch100, ch104, ch109, ch113])), .val (.int (own_let ch57)), .val (.int (own_let ch60)), .val (.int (own_let ch64)), .val (.int (own_let ch67)), .val (.int (own_let ch70)), .val (.int z141), .val (.int z144), .val (.int z147), .val (.int z150), .val (.int z153), .unset, .unset, .unset, .unset, .unset, .unset, .unset, .unset] [(.int z156)])) := by
              intro Tj156 lj156 z156 Xj156 Nj156 ej156 hz156
              let L_157 : Array Slot := #[.val (.long q0), .second, .val (.long q1), .second, .val (.int p2), .val (.int p3), .val (.ref b52), .val (.int ch74), .val (.int ch76), .val (.int kk), .val (.ref b79), .val (.int (own_he kk [ch83, ch87, ch91, ch96, ch100, ch104, ch109, ch113])), .val (.int (own_let ch57)), .val (.int (own_let ch60)), .val (.int (own_let ch64)), .val (.int (own_let ch67)), .val (.int (own_let ch70)), .val (.int z141), .val (.int z144), .val (.int z147), .val (.int z150), .val (.int z153), .val (.int z156), .unset, .unset, .unset, .unset, .unset, .unset, .unset]
              refine own_ls L_157 494 (fun _ q => XS.istore Xj156.here hx rfl (hb hby at_492) rfl (l' := L_157) rfl q) ?_
              refine own_tp (.ref b52) 496 (fun _ q => XS.aload Xj156.here hx rfl (hb hby at_494) rfl rfl q) ?_
              refine own_tp (.int (0 : Int32)) 497 (fun _ q => XS.iconst Xj156.here hx rfl (hb hby at_496) q) ?_
              obtain ⟨cl158, Ar158, q158, S158, Nn158, H158, G158⟩ := (id f124)
              have hin158 : ¬ ((0 : Int32) < 0 ∨ cl158.slots.size ≤ ((0 : Int32)).toNatClampNeg) := inb_of S158 ⟨by decide, by decide⟩
              have hat158 : cl158.slots[((0 : Int32)).toNatClampNeg]? = some (.int ch54) := H158.at hin158 rfl
              refine own_t2 (.int ch54) 498 (fun _ q => Xj156.caload hx (j := (0 : Int32)) (v := (.int ch54)) (by rw [ej156]; exact Ar158.1) (State.isArrayOf_alike hZ.alike Ar158.2.1) Ar158.2.2 hin158 hat158 (g := (mkF m 497 L_157 [(.int (0 : Int32)), (.ref b52)])) rfl rfl (hb hby at_497) _ q) ?_
              obtain ⟨_, _, ⟨T159, L159, k159, n159⟩, -, X159, ⟨Lc159, hQ159, l159, y159, z159⟩, st159⟩ := Jvm.LawKit.callS Xj156 hx (y := (⟨"com/example/cited_experts/citedexperts/EmailAddressHostEndPinLaw", "isA", "(C)Z"⟩ : MethodName)) hown (mvT hZ (own_w hw 86 rfl)) (mvT hZ (own_w hw 87 rfl)) (mvT hZ (own_w hw 5 rfl)) (mvT hZ (own_w hw 88 rfl)) (by decide) (backOf (W := 0) (rm4 l Z a0 hw [] ch54 T121.heap n0 ) hZ (own_w hw 88 rfl) (own_w hw 5 rfl) (by decide) (by decide)) (g := (mkF m 498 L_157 [(.int ch54)])) rfl (by rw [hml]; rfl) (argsL := [(.int ch54)]) (rest := []) (lenOf pd1 rfl) rfl (by show 2 * 0 + _ ≤ _; exact Nat.le_of_eq rfl) (hb hby at_498) (fun _ _ => ⟨rfl, ej156, (by decide : 4 + 0 ≤ _), (by decide : 26 + 0 ≤ _)⟩)
              dsimp only [Pt.U, Pt.locs, Pt.cells, Pt.slots] at X159 l159 y159 z159 st159 hQ159
              subst l159 y159 z159
              obtain ⟨rfl, Nq159, eq159⟩ := hQ159
              have N159 := Fr.app Nj156 Nq159
              refine own_t1 (.int (own_isA ch54)) 501 st159 ?_
              have kj160 : ∀ (Tj160 : State) (lj160 : List Loc) (z160 : Int32), Stand p l e room_1 s m #[(.long q0), (.long q1), (.int p2), (.int p3)] below meth c Tj160 lj160 4 26 → Fr n0 lj160 → Tj160.heap = T121.heap → z160 = own_g4 (own_isA ch54) (own_isA ch57) (own_isA ch60) (own_isA ch64) z141 z144 z147 z150 → own_Goes p e below (own_FN s (Q0 h0 n0) room_1.cells room_1.slots) (Tj160.setTop (mkF m 564 #[.val (.long q0), .second, .val (.long q1), .second, .val (.int p2), .val (.int p3), .val (.ref b52), .val (.int ch74), .val (.int ch76), .val (.int kk), .val (.ref b79), .val (.int (own_he kk [ch83, ch87, ch91, ch96, ch100, ch104, ch109, ch113])), .val (.int (own_let ch57)), .val (.int (own_let ch60)), .val (.int (own_let ch64)), .val (.int (own_let ch67)), .val (.int (own_let ch70)), .val (.int z141), .val (.int z144), .val (.int z147), .val (.int z150), .val (.int z153), .val (.int z156), .unset, .unset, .unset, .unset, .unset, .unset, .unset] [(.int z160)])) := by
                intro Tj160 lj160 z160 Xj160 Nj160 ej160 hz160
                let L_161 : Array Slot := #[.val (.long q0), .second, .val (.long q1), .second, .val (.int p2), .val (.int p3), .val (.ref b52), .val (.int ch74), .val (.int ch76), .val (.int kk), .val (.ref b79), .val (.int (own_he kk [ch83, ch87, ch91, ch96, ch100, ch104, ch109, ch113])), .val (.int (own_let ch57)), .val (.int (own_let ch60)), .val (.int (own_let ch64)), .val (.int (own_let ch67)), .val (.int (own_let ch70)), .val (.int z141), .val (.int z144), .val (.int z147), .val (.int z150), .val (.int z153), .val (.int z156), .val (.int z160), .unset, .unset, .unset, .unset, .unset, .unset]
                refine own_ls L_161 566 (fun _ q => XS.istore Xj160.here hx rfl (hb hby at_564) rfl (l' := L_161) rfl q) ?_
                have kj162 : ∀ (Tj162 : State) (lj162 : List Loc) (z162 : Int32), Stand p l e room_1 s m #[(.long q0), (.long q1), (.int p2), (.int p3)] below meth c Tj162 lj162 4 26 → Fr n0 lj162 → Tj162.heap = T121.heap → z162 = own_g5 z160 (own_isA ch67) z150 z153 → own_Goes p e below (own_FN s (Q0 h0 n0) room_1.cells room_1.slots) (Tj162.setTop (mkF m 596 #[.val (.long q0), .second, .val (.long q1), .second, .val (.int p2), .val (.int p3), .val (.ref b52), .val (.int ch74), .val (.int ch76), .val (.int kk), .val (.ref b79), .val (.int (own_he kk [ch83, ch87, ch91, ch96, ch100, ch104, ch109, ch113])), .val (.int (own_let ch57)), .val (.int (own_let ch60)), .val (.int (own_let ch64)), .val (.int (own_let ch67)), .val (.int (own_let ch70)), .val (.int z141), .val (.int z144), .val (.int z147), .val (.int z150), .val (.int z153), .val (.int z156), .val (.int z160), .unset, .unset, .unset, .unset, .unset, .unset] [(.int z162)])) := by
                  intro Tj162 lj162 z162 Xj162 Nj162 ej162 hz162
                  let L_163 : Array Slot := #[.val (.long q0), .second, .val (.long q1), .second, .val (.int p2), .val (.int p3), .val (.ref b52), .val (.int ch74), .val (.int ch76), .val (.int kk), .val (.ref b79), .val (.int (own_he kk [ch83, ch87, ch91, ch96, ch100, ch104, ch109, ch113])), .val (.int (own_let ch57)), .val (.int (own_let ch60)), .val (.int (own_let ch64)), .val (.int (own_let ch67)), .val (.int (own_let ch70)), .val (.int z141), .val (.int z144), .val (.int z147), .val (.int z150), .val (.int z153), .val (.int z156), .val (.int z160), .val (.int z162), .unset, .unset, .unset, .unset, .unset]
                  refine own_ls L_163 598 (fun _ q => XS.istore Xj162.here hx rfl (hb hby at_596) rfl (l' := L_163) rfl q) ?_
                  have kj164 : ∀ (Tj164 : State) (lj164 : List Loc) (z164 : Int32), Stand p l e room_1 s m #[(.long q0), (.long q1), (.int p2), (.int p3)] below meth c Tj164 lj164 4 26 → Fr n0 lj164 → Tj164.heap = T121.heap → z164 = own_g5 z162 (own_isA ch70) z153 z156 → own_Goes p e below (own_FN s (Q0 h0 n0) room_1.cells room_1.slots) (Tj164.setTop (mkF m 628 #[.val (.long q0), .second, .val (.long q1), .second, .val (.int p2), .val (.int p3), .val (.ref b52), .val (.int ch74), .val (.int ch76), .val (.int kk), .val (.ref b79), .val (.int (own_he kk [ch83, ch87, ch91, ch96, ch100, ch104, ch109, ch113])), .val (.int (own_let ch57)), .val (.int (own_let ch60)), .val (.int (own_let ch64)), .val (.int (own_let ch67)), .val (.int (own_let ch70)), .val (.int z141), .val (.int z144), .val (.int z147), .val (.int z150), .val (.int z153), .val (.int z156), .val (.int z160), .val (.int z162), .unset, .unset, .unset, .unset, .unset] [(.int z164)])) := by
                    intro Tj164 lj164 z164 Xj164 Nj164 ej164 hz164
                    let L_165 : Array Slot := #[.val (.long q0), .second, .val (.long q1), .second, .val (.int p2), .val (.int p3), .val (.ref b52), .val (.int ch74), .val (.int ch76), .val (.int kk), .val (.ref b79), .val (.int (own_he kk [ch83, ch87, ch91, ch96, ch100, ch104, ch109, ch113])), .val (.int (own_let ch57)), .val (.int (own_let ch60)), .val (.int (own_let ch64)), .val (.int (own_let ch67)), .val (.int (own_let ch70)), .val (.int z141), .val (.int z144), .val (.int z147), .val (.int z150), .val (.int z153), .val (.int z156), .val (.int z160), .val (.int z162), .val (.int z164), .unset, .unset, .unset, .unset]
                    refine own_ls L_165 630 (fun _ q => XS.istore Xj164.here hx rfl (hb hby at_628) rfl (l' := L_165) rfl q) ?_
                    have kj166 : ∀ (Tj166 : State) (lj166 : List Loc) (z166 : Int32), Stand p l e room_1 s m #[(.long q0), (.long q1), (.int p2), (.int p3)] below meth c Tj166 lj166 4 26 → Fr n0 lj166 → Tj166.heap = T121.heap → z166 = own_t4 z144 (own_let ch60) (own_let ch64) → own_Goes p e below (own_FN s (Q0 h0 n0) room_1.cells room_1.slots) (Tj166.setTop (mkF m 650 #[.val (.long q0), .second, .val (.long q1), .second, .val (.int p2), .val (.int p3), .val (.ref b52), .val (.int ch74), .val (.int ch76), .val (.int kk), .val (.ref b79), .val (.int (own_he kk [ch83, ch87, ch91, ch96, ch100, ch104, ch109, ch113])), .val (.int (own_let ch57)), .val (.int (own_let ch60)), .val (.int (own_let ch64)), .val (.int (own_let ch67)), .val (.int (own_let ch70)), .val (.int z141), .val (.int z144), .val (.int z147), .val (.int z150), .val (.int z153), .val (.int z156), .val (.int z160), .val (.int z162), .val (.int z164), .unset, .unset, .unset, .unset] [(.int z166)])) := by
                      intro Tj166 lj166 z166 Xj166 Nj166 ej166 hz166
                      let L_167 : Array Slot := #[.val (.long q0), .second, .val (.long q1), .second, .val (.int p2), .val (.int p3), .val (.ref b52), .val (.int ch74), .val (.int ch76), .val (.int kk), .val (.ref b79), .val (.int (own_he kk [ch83, ch87, ch91, ch96, ch100, ch104, ch109, ch113])), .val (.int (own_let ch57)), .val (.int (own_let ch60)), .val (.int (own_let ch64)), .val (.int (own_let ch67)), .val (.int (own_let ch70)), .val (.int z141), .val (.int z144), .val (.int z147), .val (.int z150), .val (.int z153), .val (.int z156), .val (.int z160), .val (.int z162), .val (.int z164), .val (.int z166), .unset, .unset, .unset]
                      refine own_ls L_167 652 (fun _ q => XS.istore Xj166.here hx rfl (hb hby at_650) rfl (l' := L_167) rfl q) ?_
                      have kj168 : ∀ (Tj168 : State) (lj168 : List Loc) (z168 : Int32), Stand p l e room_1 s m #[(.long q0), (.long q1), (.int p2), (.int p3)] below meth c Tj168 lj168 4 26 → Fr n0 lj168 → Tj168.heap = T121.heap → z168 = own_t5 (own_let ch64) (own_let ch67) z147 (own_let ch60) z144 → own_Goes p e below (own_FN s (Q0 h0 n0) room_1.cells room_1.slots) (Tj168.setTop (mkF m 682 #[.val (.long q0), .second, .val (.long q1), .second, .val (.int p2), .val (.int p3), .val (.ref b52), .val (.int ch74), .val (.int ch76), .val (.int kk), .val (.ref b79), .val (.int (own_he kk [ch83, ch87, ch91, ch96, ch100, ch104, ch109, ch113])), .val (.int (own_let ch57)), .val (.int (own_let ch60)), .val (.int (own_let ch64)), .val (.int (own_let ch67)), .val (.int (own_let ch70)), .val (.int z141), .val (.int z144), .val (.int z147), .val (.int z150), .val (.int z153), .val (.int z156), .val (.int z160), .val (.int z162), .val (.int z164), .val (.int z166), .unset, .unset, .unset] [(.int z168)])) := by
                        intro Tj168 lj168 z168 Xj168 Nj168 ej168 hz168
                        let L_169 : Array Slot := #[.val (.long q0), .second, .val (.long q1), .second, .val (.int p2), .val (.int p3), .val (.ref b52), .val (.int ch74), .val (.int ch76), .val (.int kk), .val (.ref b79), .val (.int (own_he kk [ch83, ch87, ch91, ch96, ch100, ch104, ch109, ch113])), .val (.int (own_let ch57)), .val (.int (own_let ch60)), .val (.int (own_let ch64)), .val (.int (own_let ch67)), .val (.int (own_let ch70)), .val (.int z141), .val (.int z144), .val (.int z147), .val (.int z150), .val (.int z153), .val (.int z156), .val (.int z160), .val (.int z162), .val (.int z164), .val (.int z166), .val (.int z168), .unset, .unset]
                        refine own_ls L_169 684 (fun _ q => XS.istore Xj168.here hx rfl (hb hby at_682) rfl (l' := L_169) rfl q) ?_
                        have kj170 : ∀ (Tj170 : State) (lj170 : List Loc) (z170 : Int32), Stand p l e room_1 s m #[(.long q0), (.long q1), (.int p2), (.int p3)] below meth c Tj170 lj170 4 26 → Fr n0 lj170 → Tj170.heap = T121.heap → z170 = own_t6 (own_let ch67) (own_let ch70) z150 (own_let ch64) z147 (own_let ch60) z144 → own_Goes p e below (own_FN s (Q0 h0 n0) room_1.cells room_1.slots) (Tj170.setTop (mkF m 724 #[.val (.long q0), .second, .val (.long q1), .second, .val (.int p2), .val (.int p3), .val (.ref b52), .val (.int ch74), .val (.int ch76), .val (.int kk), .val (.ref b79), .val (.int (own_he kk [ch83, ch87, ch91, ch96, ch100, ch104, ch109, ch113])), .val (.int (own_let ch57)), .val (.int (own_let ch60)), .val (.int (own_let ch64)), .val (.int (own_let ch67)), .val (.int (own_let ch70)), .val (.int z141), .val (.int z144), .val (.int z147), .val (.int z150), .val (.int z153), .val (.int z156), .val (.int z160), .val (.int z162), .val (.int z164), .val (.int z166), .val (.int z168), .unset, .unset] [(.int z170)])) := by
                          intro Tj170 lj170 z170 Xj170 Nj170 ej170 hz170
                          let L_171 : Array Slot := #[.val (.long q0), .second, .val (.long q1), .second, .val (.int p2), .val (.int p3), .val (.ref b52), .val (.int ch74), .val (.int ch76), .val (.int kk), .val (.ref b79), .val (.int (own_he kk [ch83, ch87, ch91, ch96, ch100, ch104, ch109, ch113])), .val (.int (own_let ch57)), .val (.int (own_let ch60)), .val (.int (own_let ch64)), .val (.int (own_let ch67)), .val (.int (own_let ch70)), .val (.int z141), .val (.int z144), .val (.int z147), .val (.int z150), .val (.int z153), .val (.int z156), .val (.int z160), .val (.int z162), .val (.int z164), .val (.int z166), .val (.int z168), .val (.int z170), .unset]
                          refine own_ls L_171 726 (fun _ q => XS.istore Xj170.here hx rfl (hb hby at_724) rfl (l' := L_171) rfl q) ?_
                          refine own_tp (.int z164) 728 (fun _ q => XS.iload Xj170.here hx rfl (hb hby at_726) rfl q) ?_
                          by_cases c172 : z164 = (0 : Int32)
                          ·
                            refine own_d1 746 (fun _ q => XS.ifYes Xj170.here hx rfl (pc0 := 728) (pc' := 746) rfl (hb hby at_728) rfl ((if0 _ _).trans (teq c172).1) (by decide) (by decide) q) ?_
                            refine own_tp (.int z162) 748 (fun _ q => XS.iload Xj170.here hx rfl (hb hby at_746) rfl q) ?_
                            by_cases c173 : z162 = (0 : Int32)
                            ·
                              refine own_d1 765 (fun _ q => XS.ifYes Xj170.here hx rfl (pc0 := 748) (pc' := 765) rfl (hb hby at_748) rfl ((if0 _ _).trans (teq c173).1) (by decide) (by decide) q) ?_
                              refine own_tp (.int z160) 767 (fun _ q => XS.iload Xj170.here hx rfl (hb hby at_765) rfl q) ?_
                              by_cases c174 : z160 = (0 : Int32)
                              ·
                                refine own_d1 784 (fun _ q => XS.ifYes Xj170.here hx rfl (pc0 := 767) (pc' := 784) rfl (hb hby at_767) rfl ((if0 _ _).trans (teq c174).1) (by decide) (by decide) q) ?_
                                refine own_tp (.int (-1 : Int32)) 785 (fun _ q => XS.iconst Xj170.here hx rfl (hb hby at_784) q) ?_
                                let L_175 : Array Slot := #[.val (.long q0), .second, .val (.long q1), .second, .val (.int p2), .val (.int p3), .val (.ref b52), .val (.int ch74), .val (.int ch76), .val (.int kk), .val (.ref b79), .val (.int (own_he kk [ch83, ch87, ch91, ch96, ch100, ch104, ch109, ch113])), .val (.int (own_let ch57)), .val (.int (own_let ch60)), .val (.int (own_let ch64)), .val (.int (own_let ch67)), .val (.int (own_let ch70)), .val (.int z141), .val (.int z144), .val (.int z147), .val (.int z150), .val (.int z153), .val (.int z156), .val (.int z160), .val (.int z162), .val (.int z164), .val (.int z166), .val (.int z168), .val (.int z170), .val (.int (-1 : Int32))]
                                refine own_ls L_175 787 (fun _ q => XS.istore Xj170.here hx rfl (hb hby at_785) rfl (l' := L_175) rfl q) ?_
                                refine own_tp (.int (own_he kk [ch83, ch87, ch91, ch96, ch100, ch104, ch109, ch113])) 789 (fun _ q => XS.iload Xj170.here hx rfl (hb hby at_787) rfl q) ?_
                                refine own_tp (.int (-1 : Int32)) 791 (fun _ q => XS.iload Xj170.here hx rfl (hb hby at_789) rfl q) ?_
                                have hm := own_main kk ch74 ch76 ch54 ch57 ch60 ch64 ch67 ch70 ch83 ch87 ch91 ch96 ch100 ch104 ch109 ch113 hk hd83 hd87 hd91 hd96 hd100 hd104 hd109 hd113
                                unfold own_fin at hm
                                rw [← hz141, ← hz144, ← hz147, ← hz150, ← hz153, ← hz156, ← hz160, ← hz162, ← hz164, ← hz166, ← hz168, ← hz170] at hm
                                refine own_d2 794 (fun _ q => XS.icmpNo Xj170.here hx rfl (hb hby at_791) rfl (teq (by rw [hm]; simp [own_ex, own_ex5, own_ex4, c172, c173, c174])).2 q) ?_
                                refine own_tp (.int (1 : Int32)) 795 (fun _ q => XS.iconst Xj170.here hx rfl (hb hby at_794) q) ?_
                                refine own_d0 799 (fun _ q => XS.goto Xj170.here hx rfl (pc0 := 795) (pc' := 799) rfl (hb hby at_795) (by decide) (by decide) q) ?_
                                exact own_retN (t := .boolean) Xj170 hx hrt (hb hby at_799) (by simp) hlk (by decide) (by decide) ej170 (⟨rfl, Nj170⟩)
                              ·
                                refine own_d1 770 (fun _ q => XS.ifNo Xj170.here hx rfl (hb hby at_767) rfl ((if0 _ _).trans (feq c174).1) q) ?_
                                refine own_tp (.int z166) 772 (fun _ q => XS.iload Xj170.here hx rfl (hb hby at_770) rfl q) ?_
                                by_cases c176 : z166 = (0 : Int32)
                                ·
                                  refine own_d1 784 (fun _ q => XS.ifYes Xj170.here hx rfl (pc0 := 772) (pc' := 784) rfl (hb hby at_772) rfl ((if0 _ _).trans (teq c176).1) (by decide) (by decide) q) ?_
                                  refine own_tp (.int (-1 : Int32)) 785 (fun _ q => XS.iconst Xj170.here hx rfl (hb hby at_784) q) ?_
                                  let L_177 : Array Slot := #[.val (.long q0), .second, .val (.long q1), .second, .val (.int p2), .val (.int p3), .val (.ref b52), .val (.int ch74), .val (.int ch76), .val (.int kk), .val (.ref b79), .val (.int (own_he kk [ch83, ch87, ch91, ch96, ch100, ch104, ch109, ch113])), .val (.int (own_let ch57)), .val (.int (own_let ch60)), .val (.int (own_let ch64)), .val (.int (own_let ch67)), .val (.int (own_let ch70)), .val (.int z141), .val (.int z144), .val (.int z147), .val (.int z150), .val (.int z153), .val (.int z156), .val (.int z160), .val (.int z162), .val (.int z164), .val (.int z166), .val (.int z168), .val (.int z170), .val (.int (-1 : Int32))]
                                  refine own_ls L_177 787 (fun _ q => XS.istore Xj170.here hx rfl (hb hby at_785) rfl (l' := L_177) rfl q) ?_
                                  refine own_tp (.int (own_he kk [ch83, ch87, ch91, ch96, ch100, ch104, ch109, ch113])) 789 (fun _ q => XS.iload Xj170.here hx rfl (hb hby at_787) rfl q) ?_
                                  refine own_tp (.int (-1 : Int32)) 791 (fun _ q => XS.iload Xj170.here hx rfl (hb hby at_789) rfl q) ?_
                                  have hm := own_main kk ch74 ch76 ch54 ch57 ch60 ch64 ch67 ch70 ch83 ch87 ch91 ch96 ch100 ch104 ch109 ch113 hk hd83 hd87 hd91 hd96 hd100 hd104 hd109 hd113
                                  unfold own_fin at hm
                                  rw [← hz141, ← hz144, ← hz147, ← hz150, ← hz153, ← hz156, ← hz160, ← hz162, ← hz164, ← hz166, ← hz168, ← hz170] at hm
                                  refine own_d2 794 (fun _ q => XS.icmpNo Xj170.here hx rfl (hb hby at_791) rfl (teq (by rw [hm]; simp [own_ex, own_ex5, own_ex4, c172, c173, c174, c176])).2 q) ?_
                                  refine own_tp (.int (1 : Int32)) 795 (fun _ q => XS.iconst Xj170.here hx rfl (hb hby at_794) q) ?_
                                  refine own_d0 799 (fun _ q => XS.goto Xj170.here hx rfl (pc0 := 795) (pc' := 799) rfl (hb hby at_795) (by decide) (by decide) q) ?_
                                  exact own_retN (t := .boolean) Xj170 hx hrt (hb hby at_799) (by simp) hlk (by decide) (by decide) ej170 (⟨rfl, Nj170⟩)
                                ·
                                  refine own_d1 775 (fun _ q => XS.ifNo Xj170.here hx rfl (hb hby at_772) rfl ((if0 _ _).trans (feq c176).1) q) ?_
                                  refine own_tp (.int kk) 777 (fun _ q => XS.iload Xj170.here hx rfl (hb hby at_775) rfl q) ?_
                                  refine own_tp (.int (4 : Int32)) 778 (fun _ q => XS.iconst Xj170.here hx rfl (hb hby at_777) q) ?_
                                  refine own_t2 (.int (kk + (4 : Int32))) 779 (fun _ q => XS.iadd Xj170.here hx rfl (hb hby at_778) rfl q) ?_
                                  let L_178 : Array Slot := #[.val (.long q0), .second, .val (.long q1), .second, .val (.int p2), .val (.int p3), .val (.ref b52), .val (.int ch74), .val (.int ch76), .val (.int kk), .val (.ref b79), .val (.int (own_he kk [ch83, ch87, ch91, ch96, ch100, ch104, ch109, ch113])), .val (.int (own_let ch57)), .val (.int (own_let ch60)), .val (.int (own_let ch64)), .val (.int (own_let ch67)), .val (.int (own_let ch70)), .val (.int z141), .val (.int z144), .val (.int z147), .val (.int z150), .val (.int z153), .val (.int z156), .val (.int z160), .val (.int z162), .val (.int z164), .val (.int z166), .val (.int z168), .val (.int z170), .val (.int (kk + (4 : Int32)))]
                                  refine own_ls L_178 781 (fun _ q => XS.istore Xj170.here hx rfl (hb hby at_779) rfl (l' := L_178) rfl q) ?_
                                  refine own_d0 787 (fun _ q => XS.goto Xj170.here hx rfl (pc0 := 781) (pc' := 787) rfl (hb hby at_781) (by decide) (by decide) q) ?_
                                  refine own_tp (.int (own_he kk [ch83, ch87, ch91, ch96, ch100, ch104, ch109, ch113])) 789 (fun _ q => XS.iload Xj170.here hx rfl (hb hby at_787) rfl q) ?_
                                  refine own_tp (.int (kk + (4 : Int32))) 791 (fun _ q => XS.iload Xj170.here hx rfl (hb hby at_789) rfl q) ?_
                                  have hm := own_main kk ch74 ch76 ch54 ch57 ch60 ch64 ch67 ch70 ch83 ch87 ch91 ch96 ch100 ch104 ch109 ch113 hk hd83 hd87 hd91 hd96 hd100 hd104 hd109 hd113
                                  unfold own_fin at hm
                                  rw [← hz141, ← hz144, ← hz147, ← hz150, ← hz153, ← hz156, ← hz160, ← hz162, ← hz164, ← hz166, ← hz168, ← hz170] at hm
                                  refine own_d2 794 (fun _ q => XS.icmpNo Xj170.here hx rfl (hb hby at_791) rfl (teq (by rw [hm]; simp [own_ex, own_ex5, own_ex4, c172, c173, c174, c176])).2 q) ?_
                                  refine own_tp (.int (1 : Int32)) 795 (fun _ q => XS.iconst Xj170.here hx rfl (hb hby at_794) q) ?_
                                  refine own_d0 799 (fun _ q => XS.goto Xj170.here hx rfl (pc0 := 795) (pc' := 799) rfl (hb hby at_795) (by decide) (by decide) q) ?_
                                  exact own_retN (t := .boolean) Xj170 hx hrt (hb hby at_799) (by simp) hlk (by decide) (by decide) ej170 (⟨rfl, Nj170⟩)
                            ·
                              refine own_d1 751 (fun _ q => XS.ifNo Xj170.here hx rfl (hb hby at_748) rfl ((if0 _ _).trans (feq c173).1) q) ?_
                              refine own_tp (.int z168) 753 (fun _ q => XS.iload Xj170.here hx rfl (hb hby at_751) rfl q) ?_
                              by_cases c179 : z168 = (0 : Int32)
                              ·
                                refine own_d1 765 (fun _ q => XS.ifYes Xj170.here hx rfl (pc0 := 753) (pc' := 765) rfl (hb hby at_753) rfl ((if0 _ _).trans (teq c179).1) (by decide) (by decide) q) ?_
                                refine own_tp (.int z160) 767 (fun _ q => XS.iload Xj170.here hx rfl (hb hby at_765) rfl q) ?_
                                by_cases c180 : z160 = (0 : Int32)
                                ·
                                  refine own_d1 784 (fun _ q => XS.ifYes Xj170.here hx rfl (pc0 := 767) (pc' := 784) rfl (hb hby at_767) rfl ((if0 _ _).trans (teq c180).1) (by decide) (by decide) q) ?_
                                  refine own_tp (.int (-1 : Int32)) 785 (fun _ q => XS.iconst Xj170.here hx rfl (hb hby at_784) q) ?_
                                  let L_181 : Array Slot := #[.val (.long q0), .second, .val (.long q1), .second, .val (.int p2), .val (.int p3), .val (.ref b52), .val (.int ch74), .val (.int ch76), .val (.int kk), .val (.ref b79), .val (.int (own_he kk [ch83, ch87, ch91, ch96, ch100, ch104, ch109, ch113])), .val (.int (own_let ch57)), .val (.int (own_let ch60)), .val (.int (own_let ch64)), .val (.int (own_let ch67)), .val (.int (own_let ch70)), .val (.int z141), .val (.int z144), .val (.int z147), .val (.int z150), .val (.int z153), .val (.int z156), .val (.int z160), .val (.int z162), .val (.int z164), .val (.int z166), .val (.int z168), .val (.int z170), .val (.int (-1 : Int32))]
                                  refine own_ls L_181 787 (fun _ q => XS.istore Xj170.here hx rfl (hb hby at_785) rfl (l' := L_181) rfl q) ?_
                                  refine own_tp (.int (own_he kk [ch83, ch87, ch91, ch96, ch100, ch104, ch109, ch113])) 789 (fun _ q => XS.iload Xj170.here hx rfl (hb hby at_787) rfl q) ?_
                                  refine own_tp (.int (-1 : Int32)) 791 (fun _ q => XS.iload Xj170.here hx rfl (hb hby at_789) rfl q) ?_
                                  have hm := own_main kk ch74 ch76 ch54 ch57 ch60 ch64 ch67 ch70 ch83 ch87 ch91 ch96 ch100 ch104 ch109 ch113 hk hd83 hd87 hd91 hd96 hd100 hd104 hd109 hd113
                                  unfold own_fin at hm
                                  rw [← hz141, ← hz144, ← hz147, ← hz150, ← hz153, ← hz156, ← hz160, ← hz162, ← hz164, ← hz166, ← hz168, ← hz170] at hm
                                  refine own_d2 794 (fun _ q => XS.icmpNo Xj170.here hx rfl (hb hby at_791) rfl (teq (by rw [hm]; simp [own_ex, own_ex5, own_ex4, c172, c173, c179, c180])).2 q) ?_
                                  refine own_tp (.int (1 : Int32)) 795 (fun _ q => XS.iconst Xj170.here hx rfl (hb hby at_794) q) ?_
                                  refine own_d0 799 (fun _ q => XS.goto Xj170.here hx rfl (pc0 := 795) (pc' := 799) rfl (hb hby at_795) (by decide) (by decide) q) ?_
                                  exact own_retN (t := .boolean) Xj170 hx hrt (hb hby at_799) (by simp) hlk (by decide) (by decide) ej170 (⟨rfl, Nj170⟩)
                                ·
                                  refine own_d1 770 (fun _ q => XS.ifNo Xj170.here hx rfl (hb hby at_767) rfl ((if0 _ _).trans (feq c180).1) q) ?_
                                  refine own_tp (.int z166) 772 (fun _ q => XS.iload Xj170.here hx rfl (hb hby at_770) rfl q) ?_
                                  by_cases c182 : z166 = (0 : Int32)
                                  ·
                                    refine own_d1 784 (fun _ q => XS.ifYes Xj170.here hx rfl (pc0 := 772) (pc' := 784) rfl (hb hby at_772) rfl ((if0 _ _).trans (teq c182).1) (by decide) (by decide) q) ?_
                                    refine own_tp (.int (-1 : Int32)) 785 (fun _ q => XS.iconst Xj170.here hx rfl (hb hby at_784) q) ?_
                                    let L_183 : Array Slot := #[.val (.long q0), .second, .val (.long q1), .second, .val (.int p2), .val (.int p3), .val (.ref b52), .val (.int ch74), .val (.int ch76), .val (.int kk), .val (.ref b79), .val (.int (own_he kk [ch83, ch87, ch91, ch96, ch100, ch104, ch109, ch113])), .val (.int (own_let ch57)), .val (.int (own_let ch60)), .val (.int (own_let ch64)), .val (.int (own_let ch67)), .val (.int (own_let ch70)), .val (.int z141), .val (.int z144), .val (.int z147), .val (.int z150), .val (.int z153), .val (.int z156), .val (.int z160), .val (.int z162), .val (.int z164), .val (.int z166), .val (.int z168), .val (.int z170), .val (.int (-1 : Int32))]
                                    refine own_ls L_183 787 (fun _ q => XS.istore Xj170.here hx rfl (hb hby at_785) rfl (l' := L_183) rfl q) ?_
                                    refine own_tp (.int (own_he kk [ch83, ch87, ch91, ch96, ch100, ch104, ch109, ch113])) 789 (fun _ q => XS.iload Xj170.here hx rfl (hb hby at_787) rfl q) ?_
                                    refine own_tp (.int (-1 : Int32)) 791 (fun _ q => XS.iload Xj170.here hx rfl (hb hby at_789) rfl q) ?_
                                    have hm := own_main kk ch74 ch76 ch54 ch57 ch60 ch64 ch67 ch70 ch83 ch87 ch91 ch96 ch100 ch104 ch109 ch113 hk hd83 hd87 hd91 hd96 hd100 hd104 hd109 hd113
                                    unfold own_fin at hm
                                    rw [← hz141, ← hz144, ← hz147, ← hz150, ← hz153, ← hz156, ← hz160, ← hz162, ← hz164, ← hz166, ← hz168, ← hz170] at hm
                                    refine own_d2 794 (fun _ q => XS.icmpNo Xj170.here hx rfl (hb hby at_791) rfl (teq (by rw [hm]; simp [own_ex, own_ex5, own_ex4, c172, c173, c179, c180, c182])).2 q) ?_
                                    refine own_tp (.int (1 : Int32)) 795 (fun _ q => XS.iconst Xj170.here hx rfl (hb hby at_794) q) ?_
                                    refine own_d0 799 (fun _ q => XS.goto Xj170.here hx rfl (pc0 := 795) (pc' := 799) rfl (hb hby at_795) (by decide) (by decide) q) ?_
                                    exact own_retN (t := .boolean) Xj170 hx hrt (hb hby at_799) (by simp) hlk (by decide) (by decide) ej170 (⟨rfl, Nj170⟩)
                                  ·
                                    refine own_d1 775 (fun _ q => XS.ifNo Xj170.here hx rfl (hb hby at_772) rfl ((if0 _ _).trans (feq c182).1) q) ?_
                                    refine own_tp (.int kk) 777 (fun _ q => XS.iload Xj170.here hx rfl (hb hby at_775) rfl q) ?_
                                    refine own_tp (.int (4 : Int32)) 778 (fun _ q => XS.iconst Xj170.here hx rfl (hb hby at_777) q) ?_
                                    refine own_t2 (.int (kk + (4 : Int32))) 779 (fun _ q => XS.iadd Xj170.here hx rfl (hb hby at_778) rfl q) ?_
                                    let L_184 : Array Slot := #[.val (.long q0), .second, .val (.long q1), .second, .val (.int p2), .val (.int p3), .val (.ref b52), .val (.int ch74), .val (.int ch76), .val (.int kk), .val (.ref b79), .val (.int (own_he kk [ch83, ch87, ch91, ch96, ch100, ch104, ch109, ch113])), .val (.int (own_let ch57)), .val (.int (own_let ch60)), .val (.int (own_let ch64)), .val (.int (own_let ch67)), .val (.int (own_let ch70)), .val (.int z141), .val (.int z144), .val (.int z147), .val (.int z150), .val (.int z153), .val (.int z156), .val (.int z160), .val (.int z162), .val (.int z164), .val (.int z166), .val (.int z168), .val (.int z170), .val (.int (kk + (4 : Int32)))]
                                    refine own_ls L_184 781 (fun _ q => XS.istore Xj170.here hx rfl (hb hby at_779) rfl (l' := L_184) rfl q) ?_
                                    refine own_d0 787 (fun _ q => XS.goto Xj170.here hx rfl (pc0 := 781) (pc' := 787) rfl (hb hby at_781) (by decide) (by decide) q) ?_
                                    refine own_tp (.int (own_he kk [ch83, ch87, ch91, ch96, ch100, ch104, ch109, ch113])) 789 (fun _ q => XS.iload Xj170.here hx rfl (hb hby at_787) rfl q) ?_
                                    refine own_tp (.int (kk + (4 : Int32))) 791 (fun _ q => XS.iload Xj170.here hx rfl (hb hby at_789) rfl q) ?_
                                    have hm := own_main kk ch74 ch76 ch54 ch57 ch60 ch64 ch67 ch70 ch83 ch87 ch91 ch96 ch100 ch104 ch109 ch113 hk hd83 hd87 hd91 hd96 hd100 hd104 hd109 hd113
                                    unfold own_fin at hm
                                    rw [← hz141, ← hz144, ← hz147, ← hz150, ← hz153, ← hz156, ← hz160, ← hz162, ← hz164, ← hz166, ← hz168, ← hz170] at hm
                                    refine own_d2 794 (fun _ q => XS.icmpNo Xj170.here hx rfl (hb hby at_791) rfl (teq (by rw [hm]; simp [own_ex, own_ex5, own_ex4, c172, c173, c179, c180, c182])).2 q) ?_
                                    refine own_tp (.int (1 : Int32)) 795 (fun _ q => XS.iconst Xj170.here hx rfl (hb hby at_794) q) ?_
                                    refine own_d0 799 (fun _ q => XS.goto Xj170.here hx rfl (pc0 := 795) (pc' := 799) rfl (hb hby at_795) (by decide) (by decide) q) ?_
                                    exact own_retN (t := .boolean) Xj170 hx hrt (hb hby at_799) (by simp) hlk (by decide) (by decide) ej170 (⟨rfl, Nj170⟩)
                              ·
                                refine own_d1 756 (fun _ q => XS.ifNo Xj170.here hx rfl (hb hby at_753) rfl ((if0 _ _).trans (feq c179).1) q) ?_
                                refine own_tp (.int kk) 758 (fun _ q => XS.iload Xj170.here hx rfl (hb hby at_756) rfl q) ?_
                                refine own_tp (.int (5 : Int32)) 759 (fun _ q => XS.iconst Xj170.here hx rfl (hb hby at_758) q) ?_
                                refine own_t2 (.int (kk + (5 : Int32))) 760 (fun _ q => XS.iadd Xj170.here hx rfl (hb hby at_759) rfl q) ?_
                                let L_185 : Array Slot := #[.val (.long q0), .second, .val (.long q1), .second, .val (.int p2), .val (.int p3), .val (.ref b52), .val (.int ch74), .val (.int ch76), .val (.int kk), .val (.ref b79), .val (.int (own_he kk [ch83, ch87, ch91, ch96, ch100, ch104, ch109, ch113])), .val (.int (own_let ch57)), .val (.int (own_let ch60)), .val (.int (own_let ch64)), .val (.int (own_let ch67)), .val (.int (own_let ch70)), .val (.int z141), .val (.int z144), .val (.int z147), .val (.int z150), .val (.int z153), .val (.int z156), .val (.int z160), .val (.int z162), .val (.int z164), .val (.int z166), .val (.int z168), .val (.int z170), .val (.int (kk + (5 : Int32)))]
                                refine own_ls L_185 762 (fun _ q => XS.istore Xj170.here hx rfl (hb hby at_760) rfl (l' := L_185) rfl q) ?_
                                refine own_d0 787 (fun _ q => XS.goto Xj170.here hx rfl (pc0 := 762) (pc' := 787) rfl (hb hby at_762) (by decide) (by decide) q) ?_
                                refine own_tp (.int (own_he kk [ch83, ch87, ch91, ch96, ch100, ch104, ch109, ch113])) 789 (fun _ q => XS.iload Xj170.here hx rfl (hb hby at_787) rfl q) ?_
                                refine own_tp (.int (kk + (5 : Int32))) 791 (fun _ q => XS.iload Xj170.here hx rfl (hb hby at_789) rfl q) ?_
                                have hm := own_main kk ch74 ch76 ch54 ch57 ch60 ch64 ch67 ch70 ch83 ch87 ch91 ch96 ch100 ch104 ch109 ch113 hk hd83 hd87 hd91 hd96 hd100 hd104 hd109 hd113
                                unfold own_fin at hm
                                rw [← hz141, ← hz144, ← hz147, ← hz150, ← hz153, ← hz156, ← hz160, ← hz162, ← hz164, ← hz166, ← hz168, ← hz170] at hm
                                refine own_d2 794 (fun _ q => XS.icmpNo Xj170.here hx rfl (hb hby at_791) rfl (teq (by rw [hm]; simp [own_ex, own_ex5, own_ex4, c172, c173, c179])).2 q) ?_
                                refine own_tp (.int (1 : Int32)) 795 (fun _ q => XS.iconst Xj170.here hx rfl (hb hby at_794) q) ?_
                                refine own_d0 799 (fun _ q => XS.goto Xj170.here hx rfl (pc0 := 795) (pc' := 799) rfl (hb hby at_795) (by decide) (by decide) q) ?_
                                exact own_retN (t := .boolean) Xj170 hx hrt (hb hby at_799) (by simp) hlk (by decide) (by decide) ej170 (⟨rfl, Nj170⟩)
                          ·
                            refine own_d1 731 (fun _ q => XS.ifNo Xj170.here hx rfl (hb hby at_728) rfl ((if0 _ _).trans (feq c172).1) q) ?_
                            refine own_tp (.int z170) 733 (fun _ q => XS.iload Xj170.here hx rfl (hb hby at_731) rfl q) ?_
                            by_cases c186 : z170 = (0 : Int32)
                            ·
                              refine own_d1 746 (fun _ q => XS.ifYes Xj170.here hx rfl (pc0 := 733) (pc' := 746) rfl (hb hby at_733) rfl ((if0 _ _).trans (teq c186).1) (by decide) (by decide) q) ?_
                              refine own_tp (.int z162) 748 (fun _ q => XS.iload Xj170.here hx rfl (hb hby at_746) rfl q) ?_
                              by_cases c187 : z162 = (0 : Int32)
                              ·
                                refine own_d1 765 (fun _ q => XS.ifYes Xj170.here hx rfl (pc0 := 748) (pc' := 765) rfl (hb hby at_748) rfl ((if0 _ _).trans (teq c187).1) (by decide) (by decide) q) ?_
                                refine own_tp (.int z160) 767 (fun _ q => XS.iload Xj170.here hx rfl (hb hby at_765) rfl q) ?_
                                by_cases c188 : z160 = (0 : Int32)
                                ·
                                  refine own_d1 784 (fun _ q => XS.ifYes Xj170.here hx rfl (pc0 := 767) (pc' := 784) rfl (hb hby at_767) rfl ((if0 _ _).trans (teq c188).1) (by decide) (by decide) q) ?_
                                  refine own_tp (.int (-1 : Int32)) 785 (fun _ q => XS.iconst Xj170.here hx rfl (hb hby at_784) q) ?_
                                  let L_189 : Array Slot := #[.val (.long q0), .second, .val (.long q1), .second, .val (.int p2), .val (.int p3), .val (.ref b52), .val (.int ch74), .val (.int ch76), .val (.int kk), .val (.ref b79), .val (.int (own_he kk [ch83, ch87, ch91, ch96, ch100, ch104, ch109, ch113])), .val (.int (own_let ch57)), .val (.int (own_let ch60)), .val (.int (own_let ch64)), .val (.int (own_let ch67)), .val (.int (own_let ch70)), .val (.int z141), .val (.int z144), .val (.int z147), .val (.int z150), .val (.int z153), .val (.int z156), .val (.int z160), .val (.int z162), .val (.int z164), .val (.int z166), .val (.int z168), .val (.int z170), .val (.int (-1 : Int32))]
                                  refine own_ls L_189 787 (fun _ q => XS.istore Xj170.here hx rfl (hb hby at_785) rfl (l' := L_189) rfl q) ?_
                                  refine own_tp (.int (own_he kk [ch83, ch87, ch91, ch96, ch100, ch104, ch109, ch113])) 789 (fun _ q => XS.iload Xj170.here hx rfl (hb hby at_787) rfl q) ?_
                                  refine own_tp (.int (-1 : Int32)) 791 (fun _ q => XS.iload Xj170.here hx rfl (hb hby at_789) rfl q) ?_
                                  have hm := own_main kk ch74 ch76 ch54 ch57 ch60 ch64 ch67 ch70 ch83 ch87 ch91 ch96 ch100 ch104 ch109 ch113 hk hd83 hd87 hd91 hd96 hd100 hd104 hd109 hd113
                                  unfold own_fin at hm
                                  rw [← hz141, ← hz144, ← hz147, ← hz150, ← hz153, ← hz156, ← hz160, ← hz162, ← hz164, ← hz166, ← hz168, ← hz170] at hm
                                  refine own_d2 794 (fun _ q => XS.icmpNo Xj170.here hx rfl (hb hby at_791) rfl (teq (by rw [hm]; simp [own_ex, own_ex5, own_ex4, c172, c186, c187, c188])).2 q) ?_
                                  refine own_tp (.int (1 : Int32)) 795 (fun _ q => XS.iconst Xj170.here hx rfl (hb hby at_794) q) ?_
                                  refine own_d0 799 (fun _ q => XS.goto Xj170.here hx rfl (pc0 := 795) (pc' := 799) rfl (hb hby at_795) (by decide) (by decide) q) ?_
                                  exact own_retN (t := .boolean) Xj170 hx hrt (hb hby at_799) (by simp) hlk (by decide) (by decide) ej170 (⟨rfl, Nj170⟩)
                                ·
                                  refine own_d1 770 (fun _ q => XS.ifNo Xj170.here hx rfl (hb hby at_767) rfl ((if0 _ _).trans (feq c188).1) q) ?_
                                  refine own_tp (.int z166) 772 (fun _ q => XS.iload Xj170.here hx rfl (hb hby at_770) rfl q) ?_
                                  by_cases c190 : z166 = (0 : Int32)
                                  ·
                                    refine own_d1 784 (fun _ q => XS.ifYes Xj170.here hx rfl (pc0 := 772) (pc' := 784) rfl (hb hby at_772) rfl ((if0 _ _).trans (teq c190).1) (by decide) (by decide) q) ?_
                                    refine own_tp (.int (-1 : Int32)) 785 (fun _ q => XS.iconst Xj170.here hx rfl (hb hby at_784) q) ?_
                                    let L_191 : Array Slot := #[.val (.long q0), .second, .val (.long q1), .second, .val (.int p2), .val (.int p3), .val (.ref b52), .val (.int ch74), .val (.int ch76), .val (.int kk), .val (.ref b79), .val (.int (own_he kk [ch83, ch87, ch91, ch96, ch100, ch104, ch109, ch113])), .val (.int (own_let ch57)), .val (.int (own_let ch60)), .val (.int (own_let ch64)), .val (.int (own_let ch67)), .val (.int (own_let ch70)), .val (.int z141), .val (.int z144), .val (.int z147), .val (.int z150), .val (.int z153), .val (.int z156), .val (.int z160), .val (.int z162), .val (.int z164), .val (.int z166), .val (.int z168), .val (.int z170), .val (.int (-1 : Int32))]
                                    refine own_ls L_191 787 (fun _ q => XS.istore Xj170.here hx rfl (hb hby at_785) rfl (l' := L_191) rfl q) ?_
                                    refine own_tp (.int (own_he kk [ch83, ch87, ch91, ch96, ch100, ch104, ch109, ch113])) 789 (fun _ q => XS.iload Xj170.here hx rfl (hb hby at_787) rfl q) ?_
                                    refine own_tp (.int (-1 : Int32)) 791 (fun _ q => XS.iload Xj170.here hx rfl (hb hby at_789) rfl q) ?_
                                    have hm := own_main kk ch74 ch76 ch54 ch57 ch60 ch64 ch67 ch70 ch83 ch87 ch91 ch96 ch100 ch104 ch109 ch113 hk hd83 hd87 hd91 hd96 hd100 hd104 hd109 hd113
                                    unfold own_fin at hm
                                    rw [← hz141, ← hz144, ← hz147, ← hz150, ← hz153, ← hz156, ← hz160, ← hz162, ← hz164, ← hz166, ← hz168, ← hz170] at hm
                                    refine own_d2 794 (fun _ q => XS.icmpNo Xj170.here hx rfl (hb hby at_791) rfl (teq (by rw [hm]; simp [own_ex, own_ex5, own_ex4, c172, c186, c187, c188, c190])).2 q) ?_
                                    refine own_tp (.int (1 : Int32)) 795 (fun _ q => XS.iconst Xj170.here hx rfl (hb hby at_794) q) ?_
                                    refine own_d0 799 (fun _ q => XS.goto Xj170.here hx rfl (pc0 := 795) (pc' := 799) rfl (hb hby at_795) (by decide) (by decide) q) ?_
                                    exact own_retN (t := .boolean) Xj170 hx hrt (hb hby at_799) (by simp) hlk (by decide) (by decide) ej170 (⟨rfl, Nj170⟩)
                                  ·
                                    refine own_d1 775 (fun _ q => XS.ifNo Xj170.here hx rfl (hb hby at_772) rfl ((if0 _ _).trans (feq c190).1) q) ?_
                                    refine own_tp (.int kk) 777 (fun _ q => XS.iload Xj170.here hx rfl (hb hby at_775) rfl q) ?_
                                    refine own_tp (.int (4 : Int32)) 778 (fun _ q => XS.iconst Xj170.here hx rfl (hb hby at_777) q) ?_
                                    refine own_t2 (.int (kk + (4 : Int32))) 779 (fun _ q => XS.iadd Xj170.here hx rfl (hb hby at_778) rfl q) ?_
                                    let L_192 : Array Slot := #[.val (.long q0), .second, .val (.long q1), .second, .val (.int p2), .val (.int p3), .val (.ref b52), .val (.int ch74), .val (.int ch76), .val (.int kk), .val (.ref b79), .val (.int (own_he kk [ch83, ch87, ch91, ch96, ch100, ch104, ch109, ch113])), .val (.int (own_let ch57)), .val (.int (own_let ch60)), .val (.int (own_let ch64)), .val (.int (own_let ch67)), .val (.int (own_let ch70)), .val (.int z141), .val (.int z144), .val (.int z147), .val (.int z150), .val (.int z153), .val (.int z156), .val (.int z160), .val (.int z162), .val (.int z164), .val (.int z166), .val (.int z168), .val (.int z170), .val (.int (kk + (4 : Int32)))]
                                    refine own_ls L_192 781 (fun _ q => XS.istore Xj170.here hx rfl (hb hby at_779) rfl (l' := L_192) rfl q) ?_
                                    refine own_d0 787 (fun _ q => XS.goto Xj170.here hx rfl (pc0 := 781) (pc' := 787) rfl (hb hby at_781) (by decide) (by decide) q) ?_
                                    refine own_tp (.int (own_he kk [ch83, ch87, ch91, ch96, ch100, ch104, ch109, ch113])) 789 (fun _ q => XS.iload Xj170.here hx rfl (hb hby at_787) rfl q) ?_
                                    refine own_tp (.int (kk + (4 : Int32))) 791 (fun _ q => XS.iload Xj170.here hx rfl (hb hby at_789) rfl q) ?_
                                    have hm := own_main kk ch74 ch76 ch54 ch57 ch60 ch64 ch67 ch70 ch83 ch87 ch91 ch96 ch100 ch104 ch109 ch113 hk hd83 hd87 hd91 hd96 hd100 hd104 hd109 hd113
                                    unfold own_fin at hm
                                    rw [← hz141, ← hz144, ← hz147, ← hz150, ← hz153, ← hz156, ← hz160, ← hz162, ← hz164, ← hz166, ← hz168, ← hz170] at hm
                                    refine own_d2 794 (fun _ q => XS.icmpNo Xj170.here hx rfl (hb hby at_791) rfl (teq (by rw [hm]; simp [own_ex, own_ex5, own_ex4, c172, c186, c187, c188, c190])).2 q) ?_
                                    refine own_tp (.int (1 : Int32)) 795 (fun _ q => XS.iconst Xj170.here hx rfl (hb hby at_794) q) ?_
                                    refine own_d0 799 (fun _ q => XS.goto Xj170.here hx rfl (pc0 := 795) (pc' := 799) rfl (hb hby at_795) (by decide) (by decide) q) ?_
                                    exact own_retN (t := .boolean) Xj170 hx hrt (hb hby at_799) (by simp) hlk (by decide) (by decide) ej170 (⟨rfl, Nj170⟩)
                              ·
                                refine own_d1 751 (fun _ q => XS.ifNo Xj170.here hx rfl (hb hby at_748) rfl ((if0 _ _).trans (feq c187).1) q) ?_
                                refine own_tp (.int z168) 753 (fun _ q => XS.iload Xj170.here hx rfl (hb hby at_751) rfl q) ?_
                                by_cases c193 : z168 = (0 : Int32)
                                ·
                                  refine own_d1 765 (fun _ q => XS.ifYes Xj170.here hx rfl (pc0 := 753) (pc' := 765) rfl (hb hby at_753) rfl ((if0 _ _).trans (teq c193).1) (by decide) (by decide) q) ?_
                                  refine own_tp (.int z160) 767 (fun _ q => XS.iload Xj170.here hx rfl (hb hby at_765) rfl q) ?_
                                  by_cases c194 : z160 = (0 : Int32)
                                  ·
                                    refine own_d1 784 (fun _ q => XS.ifYes Xj170.here hx rfl (pc0 := 767) (pc' := 784) rfl (hb hby at_767) rfl ((if0 _ _).trans (teq c194).1) (by decide) (by decide) q) ?_
                                    refine own_tp (.int (-1 : Int32)) 785 (fun _ q => XS.iconst Xj170.here hx rfl (hb hby at_784) q) ?_
                                    let L_195 : Array Slot := #[.val (.long q0), .second, .val (.long q1), .second, .val (.int p2), .val (.int p3), .val (.ref b52), .val (.int ch74), .val (.int ch76), .val (.int kk), .val (.ref b79), .val (.int (own_he kk [ch83, ch87, ch91, ch96, ch100, ch104, ch109, ch113])), .val (.int (own_let ch57)), .val (.int (own_let ch60)), .val (.int (own_let ch64)), .val (.int (own_let ch67)), .val (.int (own_let ch70)), .val (.int z141), .val (.int z144), .val (.int z147), .val (.int z150), .val (.int z153), .val (.int z156), .val (.int z160), .val (.int z162), .val (.int z164), .val (.int z166), .val (.int z168), .val (.int z170), .val (.int (-1 : Int32))]
                                    refine own_ls L_195 787 (fun _ q => XS.istore Xj170.here hx rfl (hb hby at_785) rfl (l' := L_195) rfl q) ?_
                                    refine own_tp (.int (own_he kk [ch83, ch87, ch91, ch96, ch100, ch104, ch109, ch113])) 789 (fun _ q => XS.iload Xj170.here hx rfl (hb hby at_787) rfl q) ?_
                                    refine own_tp (.int (-1 : Int32)) 791 (fun _ q => XS.iload Xj170.here hx rfl (hb hby at_789) rfl q) ?_
                                    have hm := own_main kk ch74 ch76 ch54 ch57 ch60 ch64 ch67 ch70 ch83 ch87 ch91 ch96 ch100 ch104 ch109 ch113 hk hd83 hd87 hd91 hd96 hd100 hd104 hd109 hd113
                                    unfold own_fin at hm
                                    rw [← hz141, ← hz144, ← hz147, ← hz150, ← hz153, ← hz156, ← hz160, ← hz162, ← hz164, ← hz166, ← hz168, ← hz170] at hm
                                    refine own_d2 794 (fun _ q => XS.icmpNo Xj170.here hx rfl (hb hby at_791) rfl (teq (by rw [hm]; simp [own_ex, own_ex5, own_ex4, c172, c186, c187, c193, c194])).2 q) ?_
                                    refine own_tp (.int (1 : Int32)) 795 (fun _ q => XS.iconst Xj170.here hx rfl (hb hby at_794) q) ?_
                                    refine own_d0 799 (fun _ q => XS.goto Xj170.here hx rfl (pc0 := 795) (pc' := 799) rfl (hb hby at_795) (by decide) (by decide) q) ?_
                                    exact own_retN (t := .boolean) Xj170 hx hrt (hb hby at_799) (by simp) hlk (by decide) (by decide) ej170 (⟨rfl, Nj170⟩)
                                  ·
                                    refine own_d1 770 (fun _ q => XS.ifNo Xj170.here hx rfl (hb hby at_767) rfl ((if0 _ _).trans (feq c194).1) q) ?_
                                    refine own_tp (.int z166) 772 (fun _ q => XS.iload Xj170.here hx rfl (hb hby at_770) rfl q) ?_
                                    by_cases c196 : z166 = (0 : Int32)
                                    ·
                                      refine own_d1 784 (fun _ q => XS.ifYes Xj170.here hx rfl (pc0 := 772) (pc' := 784) rfl (hb hby at_772) rfl ((if0 _ _).trans (teq c196).1) (by decide) (by decide) q) ?_
                                      refine own_tp (.int (-1 : Int32)) 785 (fun _ q => XS.iconst Xj170.here hx rfl (hb hby at_784) q) ?_
                                      let L_197 : Array Slot := #[.val (.long q0), .second, .val (.long q1), .second, .val (.int p2), .val (.int p3), .val (.ref b52), .val (.int ch74), .val (.int ch76), .val (.int kk), .val (.ref b79), .val (.int (own_he kk [ch83, ch87, ch91, ch96, ch100, ch104, ch109, ch113])), .val (.int (own_let ch57)), .val (.int (own_let ch60)), .val (.int (own_let ch64)), .val (.int (own_let ch67)), .val (.int (own_let ch70)), .val (.int z141), .val (.int z144), .val (.int z147), .val (.int z150), .val (.int z153), .val (.int z156), .val (.int z160), .val (.int z162), .val (.int z164), .val (.int z166), .val (.int z168), .val (.int z170), .val (.int (-1 : Int32))]
                                      refine own_ls L_197 787 (fun _ q => XS.istore Xj170.here hx rfl (hb hby at_785) rfl (l' := L_197) rfl q) ?_
                                      refine own_tp (.int (own_he kk [ch83, ch87, ch91, ch96, ch100, ch104, ch109, ch113])) 789 (fun _ q => XS.iload Xj170.here hx rfl (hb hby at_787) rfl q) ?_
                                      refine own_tp (.int (-1 : Int32)) 791 (fun _ q => XS.iload Xj170.here hx rfl (hb hby at_789) rfl q) ?_
                                      have hm := own_main kk ch74 ch76 ch54 ch57 ch60 ch64 ch67 ch70 ch83 ch87 ch91 ch96 ch100 ch104 ch109 ch113 hk hd83 hd87 hd91 hd96 hd100 hd104 hd109 hd113
                                      unfold own_fin at hm
                                      rw [← hz141, ← hz144, ← hz147, ← hz150, ← hz153, ← hz156, ← hz160, ← hz162, ← hz164, ← hz166, ← hz168, ← hz170] at hm
                                      refine own_d2 794 (fun _ q => XS.icmpNo Xj170.here hx rfl (hb hby at_791) rfl (teq (by rw [hm]; simp [own_ex, own_ex5, own_ex4, c172, c186, c187, c193, c194, c196])).2 q) ?_
                                      refine own_tp (.int (1 : Int32)) 795 (fun _ q => XS.iconst Xj170.here hx rfl (hb hby at_794) q) ?_
                                      refine own_d0 799 (fun _ q => XS.goto Xj170.here hx rfl (pc0 := 795) (pc' := 799) rfl (hb hby at_795) (by decide) (by decide) q) ?_
                                      exact own_retN (t := .boolean) Xj170 hx hrt (hb hby at_799) (by simp) hlk (by decide) (by decide) ej170 (⟨rfl, Nj170⟩)
                                    ·
                                      refine own_d1 775 (fun _ q => XS.ifNo Xj170.here hx rfl (hb hby at_772) rfl ((if0 _ _).trans (feq c196).1) q) ?_
                                      refine own_tp (.int kk) 777 (fun _ q => XS.iload Xj170.here hx rfl (hb hby at_775) rfl q) ?_
                                      refine own_tp (.int (4 : Int32)) 778 (fun _ q => XS.iconst Xj170.here hx rfl (hb hby at_777) q) ?_
                                      refine own_t2 (.int (kk + (4 : Int32))) 779 (fun _ q => XS.iadd Xj170.here hx rfl (hb hby at_778) rfl q) ?_
                                      let L_198 : Array Slot := #[.val (.long q0), .second, .val (.long q1), .second, .val (.int p2), .val (.int p3), .val (.ref b52), .val (.int ch74), .val (.int ch76), .val (.int kk), .val (.ref b79), .val (.int (own_he kk [ch83, ch87, ch91, ch96, ch100, ch104, ch109, ch113])), .val (.int (own_let ch57)), .val (.int (own_let ch60)), .val (.int (own_let ch64)), .val (.int (own_let ch67)), .val (.int (own_let ch70)), .val (.int z141), .val (.int z144), .val (.int z147), .val (.int z150), .val (.int z153), .val (.int z156), .val (.int z160), .val (.int z162), .val (.int z164), .val (.int z166), .val (.int z168), .val (.int z170), .val (.int (kk + (4 : Int32)))]
                                      refine own_ls L_198 781 (fun _ q => XS.istore Xj170.here hx rfl (hb hby at_779) rfl (l' := L_198) rfl q) ?_
                                      refine own_d0 787 (fun _ q => XS.goto Xj170.here hx rfl (pc0 := 781) (pc' := 787) rfl (hb hby at_781) (by decide) (by decide) q) ?_
                                      refine own_tp (.int (own_he kk [ch83, ch87, ch91, ch96, ch100, ch104, ch109, ch113])) 789 (fun _ q => XS.iload Xj170.here hx rfl (hb hby at_787) rfl q) ?_
                                      refine own_tp (.int (kk + (4 : Int32))) 791 (fun _ q => XS.iload Xj170.here hx rfl (hb hby at_789) rfl q) ?_
                                      have hm := own_main kk ch74 ch76 ch54 ch57 ch60 ch64 ch67 ch70 ch83 ch87 ch91 ch96 ch100 ch104 ch109 ch113 hk hd83 hd87 hd91 hd96 hd100 hd104 hd109 hd113
                                      unfold own_fin at hm
                                      rw [← hz141, ← hz144, ← hz147, ← hz150, ← hz153, ← hz156, ← hz160, ← hz162, ← hz164, ← hz166, ← hz168, ← hz170] at hm
                                      refine own_d2 794 (fun _ q => XS.icmpNo Xj170.here hx rfl (hb hby at_791) rfl (teq (by rw [hm]; simp [own_ex, own_ex5, own_ex4, c172, c186, c187, c193, c194, c196])).2 q) ?_
                                      refine own_tp (.int (1 : Int32)) 795 (fun _ q => XS.iconst Xj170.here hx rfl (hb hby at_794) q) ?_
                                      refine own_d0 799 (fun _ q => XS.goto Xj170.here hx rfl (pc0 := 795) (pc' := 799) rfl (hb hby at_795) (by decide) (by decide) q) ?_
                                      exact own_retN (t := .boolean) Xj170 hx hrt (hb hby at_799) (by simp) hlk (by decide) (by decide) ej170 (⟨rfl, Nj170⟩)
                                ·
                                  refine own_d1 756 (fun _ q => XS.ifNo Xj170.here hx rfl (hb hby at_753) rfl ((if0 _ _).trans (feq c193).1) q) ?_
                                  refine own_tp (.int kk) 758 (fun _ q => XS.iload Xj170.here hx rfl (hb hby at_756) rfl q) ?_
                                  refine own_tp (.int (5 : Int32)) 759 (fun _ q => XS.iconst Xj170.here hx rfl (hb hby at_758) q) ?_
                                  refine own_t2 (.int (kk + (5 : Int32))) 760 (fun _ q => XS.iadd Xj170.here hx rfl (hb hby at_759) rfl q) ?_
                                  let L_199 : Array Slot := #[.val (.long q0), .second, .val (.long q1), .second, .val (.int p2), .val (.int p3), .val (.ref b52), .val (.int ch74), .val (.int ch76), .val (.int kk), .val (.ref b79), .val (.int (own_he kk [ch83, ch87, ch91, ch96, ch100, ch104, ch109, ch113])), .val (.int (own_let ch57)), .val (.int (own_let ch60)), .val (.int (own_let ch64)), .val (.int (own_let ch67)), .val (.int (own_let ch70)), .val (.int z141), .val (.int z144), .val (.int z147), .val (.int z150), .val (.int z153), .val (.int z156), .val (.int z160), .val (.int z162), .val (.int z164), .val (.int z166), .val (.int z168), .val (.int z170), .val (.int (kk + (5 : Int32)))]
                                  refine own_ls L_199 762 (fun _ q => XS.istore Xj170.here hx rfl (hb hby at_760) rfl (l' := L_199) rfl q) ?_
                                  refine own_d0 787 (fun _ q => XS.goto Xj170.here hx rfl (pc0 := 762) (pc' := 787) rfl (hb hby at_762) (by decide) (by decide) q) ?_
                                  refine own_tp (.int (own_he kk [ch83, ch87, ch91, ch96, ch100, ch104, ch109, ch113])) 789 (fun _ q => XS.iload Xj170.here hx rfl (hb hby at_787) rfl q) ?_
                                  refine own_tp (.int (kk + (5 : Int32))) 791 (fun _ q => XS.iload Xj170.here hx rfl (hb hby at_789) rfl q) ?_
                                  have hm := own_main kk ch74 ch76 ch54 ch57 ch60 ch64 ch67 ch70 ch83 ch87 ch91 ch96 ch100 ch104 ch109 ch113 hk hd83 hd87 hd91 hd96 hd100 hd104 hd109 hd113
                                  unfold own_fin at hm
                                  rw [← hz141, ← hz144, ← hz147, ← hz150, ← hz153, ← hz156, ← hz160, ← hz162, ← hz164, ← hz166, ← hz168, ← hz170] at hm
                                  refine own_d2 794 (fun _ q => XS.icmpNo Xj170.here hx rfl (hb hby at_791) rfl (teq (by rw [hm]; simp [own_ex, own_ex5, own_ex4, c172, c186, c187, c193])).2 q) ?_
                                  refine own_tp (.int (1 : Int32)) 795 (fun _ q => XS.iconst Xj170.here hx rfl (hb hby at_794) q) ?_
                                  refine own_d0 799 (fun _ q => XS.goto Xj170.here hx rfl (pc0 := 795) (pc' := 799) rfl (hb hby at_795) (by decide) (by decide) q) ?_
                                  exact own_retN (t := .boolean) Xj170 hx hrt (hb hby at_799) (by simp) hlk (by decide) (by decide) ej170 (⟨rfl, Nj170⟩)
                            ·
                              refine own_d1 736 (fun _ q => XS.ifNo Xj170.here hx rfl (hb hby at_733) rfl ((if0 _ _).trans (feq c186).1) q) ?_
                              refine own_tp (.int kk) 738 (fun _ q => XS.iload Xj170.here hx rfl (hb hby at_736) rfl q) ?_
                              refine own_tp (.int (6 : Int32)) 740 (fun _ q => XS.bipush Xj170.here hx rfl (hb hby at_738) q) ?_
                              refine own_t2 (.int (kk + (6 : Int32))) 741 (fun _ q => XS.iadd Xj170.here hx rfl (hb hby at_740) rfl q) ?_
                              let L_200 : Array Slot := #[.val (.long q0), .second, .val (.long q1), .second, .val (.int p2), .val (.int p3), .val (.ref b52), .val (.int ch74), .val (.int ch76), .val (.int kk), .val (.ref b79), .val (.int (own_he kk [ch83, ch87, ch91, ch96, ch100, ch104, ch109, ch113])), .val (.int (own_let ch57)), .val (.int (own_let ch60)), .val (.int (own_let ch64)), .val (.int (own_let ch67)), .val (.int (own_let ch70)), .val (.int z141), .val (.int z144), .val (.int z147), .val (.int z150), .val (.int z153), .val (.int z156), .val (.int z160), .val (.int z162), .val (.int z164), .val (.int z166), .val (.int z168), .val (.int z170), .val (.int (kk + (6 : Int32)))]
                              refine own_ls L_200 743 (fun _ q => XS.istore Xj170.here hx rfl (hb hby at_741) rfl (l' := L_200) rfl q) ?_
                              refine own_d0 787 (fun _ q => XS.goto Xj170.here hx rfl (pc0 := 743) (pc' := 787) rfl (hb hby at_743) (by decide) (by decide) q) ?_
                              refine own_tp (.int (own_he kk [ch83, ch87, ch91, ch96, ch100, ch104, ch109, ch113])) 789 (fun _ q => XS.iload Xj170.here hx rfl (hb hby at_787) rfl q) ?_
                              refine own_tp (.int (kk + (6 : Int32))) 791 (fun _ q => XS.iload Xj170.here hx rfl (hb hby at_789) rfl q) ?_
                              have hm := own_main kk ch74 ch76 ch54 ch57 ch60 ch64 ch67 ch70 ch83 ch87 ch91 ch96 ch100 ch104 ch109 ch113 hk hd83 hd87 hd91 hd96 hd100 hd104 hd109 hd113
                              unfold own_fin at hm
                              rw [← hz141, ← hz144, ← hz147, ← hz150, ← hz153, ← hz156, ← hz160, ← hz162, ← hz164, ← hz166, ← hz168, ← hz170] at hm
                              refine own_d2 794 (fun _ q => XS.icmpNo Xj170.here hx rfl (hb hby at_791) rfl (teq (by rw [hm]; simp [own_ex, own_ex5, own_ex4, c172, c186])).2 q) ?_
                              refine own_tp (.int (1 : Int32)) 795 (fun _ q => XS.iconst Xj170.here hx rfl (hb hby at_794) q) ?_
                              refine own_d0 799 (fun _ q => XS.goto Xj170.here hx rfl (pc0 := 795) (pc' := 799) rfl (hb hby at_795) (by decide) (by decide) q) ?_
                              exact own_retN (t := .boolean) Xj170 hx hrt (hb hby at_799) (by simp) hlk (by decide) (by decide) ej170 (⟨rfl, Nj170⟩)
                        refine own_tp (.int (own_let ch67)) 686 (fun _ q => XS.iload Xj168.here hx rfl (hb hby at_684) rfl q) ?_
                        by_cases c201 : (own_let ch67) = (0 : Int32)
                        ·
                          refine own_d1 723 (fun _ q => XS.ifYes Xj168.here hx rfl (pc0 := 686) (pc' := 723) rfl (hb hby at_686) rfl ((if0 _ _).trans (teq c201).1) (by decide) (by decide) q) ?_
                          refine own_tp (.int (0 : Int32)) 724 (fun _ q => XS.iconst Xj168.here hx rfl (hb hby at_723) q) ?_
                          exact kj170 Tj168 _ (0 : Int32) Xj168 Nj168 ej168 ((by simp [own_t6, own_y, c201]))
                        ·
                          refine own_d1 689 (fun _ q => XS.ifNo Xj168.here hx rfl (hb hby at_686) rfl ((if0 _ _).trans (feq c201).1) q) ?_
                          refine own_tp (.int (own_let ch70)) 691 (fun _ q => XS.iload Xj168.here hx rfl (hb hby at_689) rfl q) ?_
                          by_cases c202 : (own_let ch70) = (0 : Int32)
                          ·
                            refine own_d1 723 (fun _ q => XS.ifYes Xj168.here hx rfl (pc0 := 691) (pc' := 723) rfl (hb hby at_691) rfl ((if0 _ _).trans (teq c202).1) (by decide) (by decide) q) ?_
                            refine own_tp (.int (0 : Int32)) 724 (fun _ q => XS.iconst Xj168.here hx rfl (hb hby at_723) q) ?_
                            exact kj170 Tj168 _ (0 : Int32) Xj168 Nj168 ej168 ((by simp [own_t6, own_y, c201, c202]))
                          ·
                            refine own_d1 694 (fun _ q => XS.ifNo Xj168.here hx rfl (hb hby at_691) rfl ((if0 _ _).trans (feq c202).1) q) ?_
                            refine own_tp (.int z150) 696 (fun _ q => XS.iload Xj168.here hx rfl (hb hby at_694) rfl q) ?_
                            by_cases c203 : z150 = (0 : Int32)
                            ·
                              refine own_d1 699 (fun _ q => XS.ifNo Xj168.here hx rfl (hb hby at_696) rfl ((if0 _ _).trans (teq c203).2) q) ?_
                              refine own_tp (.int (own_let ch64)) 701 (fun _ q => XS.iload Xj168.here hx rfl (hb hby at_699) rfl q) ?_
                              by_cases c204 : (own_let ch64) = (0 : Int32)
                              ·
                                refine own_d1 723 (fun _ q => XS.ifYes Xj168.here hx rfl (pc0 := 701) (pc' := 723) rfl (hb hby at_701) rfl ((if0 _ _).trans (teq c204).1) (by decide) (by decide) q) ?_
                                refine own_tp (.int (0 : Int32)) 724 (fun _ q => XS.iconst Xj168.here hx rfl (hb hby at_723) q) ?_
                                exact kj170 Tj168 _ (0 : Int32) Xj168 Nj168 ej168 ((by simp [own_t6, own_y, c201, c202, c203, c204]))
                              ·
                                refine own_d1 704 (fun _ q => XS.ifNo Xj168.here hx rfl (hb hby at_701) rfl ((if0 _ _).trans (feq c204).1) q) ?_
                                refine own_tp (.int z147) 706 (fun _ q => XS.iload Xj168.here hx rfl (hb hby at_704) rfl q) ?_
                                by_cases c205 : z147 = (0 : Int32)
                                ·
                                  refine own_d1 709 (fun _ q => XS.ifNo Xj168.here hx rfl (hb hby at_706) rfl ((if0 _ _).trans (teq c205).2) q) ?_
                                  refine own_tp (.int (own_let ch60)) 711 (fun _ q => XS.iload Xj168.here hx rfl (hb hby at_709) rfl q) ?_
                                  by_cases c206 : (own_let ch60) = (0 : Int32)
                                  ·
                                    refine own_d1 723 (fun _ q => XS.ifYes Xj168.here hx rfl (pc0 := 711) (pc' := 723) rfl (hb hby at_711) rfl ((if0 _ _).trans (teq c206).1) (by decide) (by decide) q) ?_
                                    refine own_tp (.int (0 : Int32)) 724 (fun _ q => XS.iconst Xj168.here hx rfl (hb hby at_723) q) ?_
                                    exact kj170 Tj168 _ (0 : Int32) Xj168 Nj168 ej168 ((by simp [own_t6, own_y, c201, c202, c203, c204, c205, c206]))
                                  ·
                                    refine own_d1 714 (fun _ q => XS.ifNo Xj168.here hx rfl (hb hby at_711) rfl ((if0 _ _).trans (feq c206).1) q) ?_
                                    refine own_tp (.int z144) 716 (fun _ q => XS.iload Xj168.here hx rfl (hb hby at_714) rfl q) ?_
                                    by_cases c207 : z144 = (0 : Int32)
                                    ·
                                      refine own_d1 723 (fun _ q => XS.ifYes Xj168.here hx rfl (pc0 := 716) (pc' := 723) rfl (hb hby at_716) rfl ((if0 _ _).trans (teq c207).1) (by decide) (by decide) q) ?_
                                      refine own_tp (.int (0 : Int32)) 724 (fun _ q => XS.iconst Xj168.here hx rfl (hb hby at_723) q) ?_
                                      exact kj170 Tj168 _ (0 : Int32) Xj168 Nj168 ej168 ((by simp [own_t6, own_y, c201, c202, c203, c204, c205, c206, c207]))
                                    ·
                                      refine own_d1 719 (fun _ q => XS.ifNo Xj168.here hx rfl (hb hby at_716) rfl ((if0 _ _).trans (feq c207).1) q) ?_
                                      refine own_tp (.int (1 : Int32)) 720 (fun _ q => XS.iconst Xj168.here hx rfl (hb hby at_719) q) ?_
                                      refine own_d0 724 (fun _ q => XS.goto Xj168.here hx rfl (pc0 := 720) (pc' := 724) rfl (hb hby at_720) (by decide) (by decide) q) ?_
                                      exact kj170 Tj168 _ (1 : Int32) Xj168 Nj168 ej168 ((by simp [own_t6, own_y, c201, c202, c203, c204, c205, c206, c207]))
                                ·
                                  refine own_d1 719 (fun _ q => XS.ifYes Xj168.here hx rfl (pc0 := 706) (pc' := 719) rfl (hb hby at_706) rfl ((if0 _ _).trans (feq c205).2) (by decide) (by decide) q) ?_
                                  refine own_tp (.int (1 : Int32)) 720 (fun _ q => XS.iconst Xj168.here hx rfl (hb hby at_719) q) ?_
                                  refine own_d0 724 (fun _ q => XS.goto Xj168.here hx rfl (pc0 := 720) (pc' := 724) rfl (hb hby at_720) (by decide) (by decide) q) ?_
                                  exact kj170 Tj168 _ (1 : Int32) Xj168 Nj168 ej168 ((by simp [own_t6, own_y, c201, c202, c203, c204, c205]))
                            ·
                              refine own_d1 719 (fun _ q => XS.ifYes Xj168.here hx rfl (pc0 := 696) (pc' := 719) rfl (hb hby at_696) rfl ((if0 _ _).trans (feq c203).2) (by decide) (by decide) q) ?_
                              refine own_tp (.int (1 : Int32)) 720 (fun _ q => XS.iconst Xj168.here hx rfl (hb hby at_719) q) ?_
                              refine own_d0 724 (fun _ q => XS.goto Xj168.here hx rfl (pc0 := 720) (pc' := 724) rfl (hb hby at_720) (by decide) (by decide) q) ?_
                              exact kj170 Tj168 _ (1 : Int32) Xj168 Nj168 ej168 ((by simp [own_t6, own_y, c201, c202, c203]))
                      refine own_tp (.int (own_let ch64)) 654 (fun _ q => XS.iload Xj166.here hx rfl (hb hby at_652) rfl q) ?_
                      by_cases c208 : (own_let ch64) = (0 : Int32)
                      ·
                        refine own_d1 681 (fun _ q => XS.ifYes Xj166.here hx rfl (pc0 := 654) (pc' := 681) rfl (hb hby at_654) rfl ((if0 _ _).trans (teq c208).1) (by decide) (by decide) q) ?_
                        refine own_tp (.int (0 : Int32)) 682 (fun _ q => XS.iconst Xj166.here hx rfl (hb hby at_681) q) ?_
                        exact kj168 Tj166 _ (0 : Int32) Xj166 Nj166 ej166 ((by simp [own_t5, own_y, c208]))
                      ·
                        refine own_d1 657 (fun _ q => XS.ifNo Xj166.here hx rfl (hb hby at_654) rfl ((if0 _ _).trans (feq c208).1) q) ?_
                        refine own_tp (.int (own_let ch67)) 659 (fun _ q => XS.iload Xj166.here hx rfl (hb hby at_657) rfl q) ?_
                        by_cases c209 : (own_let ch67) = (0 : Int32)
                        ·
                          refine own_d1 681 (fun _ q => XS.ifYes Xj166.here hx rfl (pc0 := 659) (pc' := 681) rfl (hb hby at_659) rfl ((if0 _ _).trans (teq c209).1) (by decide) (by decide) q) ?_
                          refine own_tp (.int (0 : Int32)) 682 (fun _ q => XS.iconst Xj166.here hx rfl (hb hby at_681) q) ?_
                          exact kj168 Tj166 _ (0 : Int32) Xj166 Nj166 ej166 ((by simp [own_t5, own_y, c208, c209]))
                        ·
                          refine own_d1 662 (fun _ q => XS.ifNo Xj166.here hx rfl (hb hby at_659) rfl ((if0 _ _).trans (feq c209).1) q) ?_
                          refine own_tp (.int z147) 664 (fun _ q => XS.iload Xj166.here hx rfl (hb hby at_662) rfl q) ?_
                          by_cases c210 : z147 = (0 : Int32)
                          ·
                            refine own_d1 667 (fun _ q => XS.ifNo Xj166.here hx rfl (hb hby at_664) rfl ((if0 _ _).trans (teq c210).2) q) ?_
                            refine own_tp (.int (own_let ch60)) 669 (fun _ q => XS.iload Xj166.here hx rfl (hb hby at_667) rfl q) ?_
                            by_cases c211 : (own_let ch60) = (0 : Int32)
                            ·
                              refine own_d1 681 (fun _ q => XS.ifYes Xj166.here hx rfl (pc0 := 669) (pc' := 681) rfl (hb hby at_669) rfl ((if0 _ _).trans (teq c211).1) (by decide) (by decide) q) ?_
                              refine own_tp (.int (0 : Int32)) 682 (fun _ q => XS.iconst Xj166.here hx rfl (hb hby at_681) q) ?_
                              exact kj168 Tj166 _ (0 : Int32) Xj166 Nj166 ej166 ((by simp [own_t5, own_y, c208, c209, c210, c211]))
                            ·
                              refine own_d1 672 (fun _ q => XS.ifNo Xj166.here hx rfl (hb hby at_669) rfl ((if0 _ _).trans (feq c211).1) q) ?_
                              refine own_tp (.int z144) 674 (fun _ q => XS.iload Xj166.here hx rfl (hb hby at_672) rfl q) ?_
                              by_cases c212 : z144 = (0 : Int32)
                              ·
                                refine own_d1 681 (fun _ q => XS.ifYes Xj166.here hx rfl (pc0 := 674) (pc' := 681) rfl (hb hby at_674) rfl ((if0 _ _).trans (teq c212).1) (by decide) (by decide) q) ?_
                                refine own_tp (.int (0 : Int32)) 682 (fun _ q => XS.iconst Xj166.here hx rfl (hb hby at_681) q) ?_
                                exact kj168 Tj166 _ (0 : Int32) Xj166 Nj166 ej166 ((by simp [own_t5, own_y, c208, c209, c210, c211, c212]))
                              ·
                                refine own_d1 677 (fun _ q => XS.ifNo Xj166.here hx rfl (hb hby at_674) rfl ((if0 _ _).trans (feq c212).1) q) ?_
                                refine own_tp (.int (1 : Int32)) 678 (fun _ q => XS.iconst Xj166.here hx rfl (hb hby at_677) q) ?_
                                refine own_d0 682 (fun _ q => XS.goto Xj166.here hx rfl (pc0 := 678) (pc' := 682) rfl (hb hby at_678) (by decide) (by decide) q) ?_
                                exact kj168 Tj166 _ (1 : Int32) Xj166 Nj166 ej166 ((by simp [own_t5, own_y, c208, c209, c210, c211, c212]))
                          ·
                            refine own_d1 677 (fun _ q => XS.ifYes Xj166.here hx rfl (pc0 := 664) (pc' := 677) rfl (hb hby at_664) rfl ((if0 _ _).trans (feq c210).2) (by decide) (by decide) q) ?_
                            refine own_tp (.int (1 : Int32)) 678 (fun _ q => XS.iconst Xj166.here hx rfl (hb hby at_677) q) ?_
                            refine own_d0 682 (fun _ q => XS.goto Xj166.here hx rfl (pc0 := 678) (pc' := 682) rfl (hb hby at_678) (by decide) (by decide) q) ?_
                            exact kj168 Tj166 _ (1 : Int32) Xj166 Nj166 ej166 ((by simp [own_t5, own_y, c208, c209, c210]))
                    refine own_tp (.int z144) 632 (fun _ q => XS.iload Xj164.here hx rfl (hb hby at_630) rfl q) ?_
                    by_cases c213 : z144 = (0 : Int32)
                    ·
                      refine own_d1 649 (fun _ q => XS.ifYes Xj164.here hx rfl (pc0 := 632) (pc' := 649) rfl (hb hby at_632) rfl ((if0 _ _).trans (teq c213).1) (by decide) (by decide) q) ?_
                      refine own_tp (.int (0 : Int32)) 650 (fun _ q => XS.iconst Xj164.here hx rfl (hb hby at_649) q) ?_
                      exact kj166 Tj164 _ (0 : Int32) Xj164 Nj164 ej164 ((by simp [own_t4, c213]))
                    ·
                      refine own_d1 635 (fun _ q => XS.ifNo Xj164.here hx rfl (hb hby at_632) rfl ((if0 _ _).trans (feq c213).1) q) ?_
                      refine own_tp (.int (own_let ch60)) 637 (fun _ q => XS.iload Xj164.here hx rfl (hb hby at_635) rfl q) ?_
                      by_cases c214 : (own_let ch60) = (0 : Int32)
                      ·
                        refine own_d1 649 (fun _ q => XS.ifYes Xj164.here hx rfl (pc0 := 637) (pc' := 649) rfl (hb hby at_637) rfl ((if0 _ _).trans (teq c214).1) (by decide) (by decide) q) ?_
                        refine own_tp (.int (0 : Int32)) 650 (fun _ q => XS.iconst Xj164.here hx rfl (hb hby at_649) q) ?_
                        exact kj166 Tj164 _ (0 : Int32) Xj164 Nj164 ej164 ((by simp [own_t4, c213, c214]))
                      ·
                        refine own_d1 640 (fun _ q => XS.ifNo Xj164.here hx rfl (hb hby at_637) rfl ((if0 _ _).trans (feq c214).1) q) ?_
                        refine own_tp (.int (own_let ch64)) 642 (fun _ q => XS.iload Xj164.here hx rfl (hb hby at_640) rfl q) ?_
                        by_cases c215 : (own_let ch64) = (0 : Int32)
                        ·
                          refine own_d1 649 (fun _ q => XS.ifYes Xj164.here hx rfl (pc0 := 642) (pc' := 649) rfl (hb hby at_642) rfl ((if0 _ _).trans (teq c215).1) (by decide) (by decide) q) ?_
                          refine own_tp (.int (0 : Int32)) 650 (fun _ q => XS.iconst Xj164.here hx rfl (hb hby at_649) q) ?_
                          exact kj166 Tj164 _ (0 : Int32) Xj164 Nj164 ej164 ((by simp [own_t4, c213, c214, c215]))
                        ·
                          refine own_d1 645 (fun _ q => XS.ifNo Xj164.here hx rfl (hb hby at_642) rfl ((if0 _ _).trans (feq c215).1) q) ?_
                          refine own_tp (.int (1 : Int32)) 646 (fun _ q => XS.iconst Xj164.here hx rfl (hb hby at_645) q) ?_
                          refine own_d0 650 (fun _ q => XS.goto Xj164.here hx rfl (pc0 := 646) (pc' := 650) rfl (hb hby at_646) (by decide) (by decide) q) ?_
                          exact kj166 Tj164 _ (1 : Int32) Xj164 Nj164 ej164 ((by simp [own_t4, c213, c214, c215]))
                  refine own_tp (.int z162) 600 (fun _ q => XS.iload Xj162.here hx rfl (hb hby at_598) rfl q) ?_
                  by_cases c216 : z162 = (0 : Int32)
                  ·
                    refine own_d1 627 (fun _ q => XS.ifYes Xj162.here hx rfl (pc0 := 600) (pc' := 627) rfl (hb hby at_600) rfl ((if0 _ _).trans (teq c216).1) (by decide) (by decide) q) ?_
                    refine own_tp (.int (0 : Int32)) 628 (fun _ q => XS.iconst Xj162.here hx rfl (hb hby at_627) q) ?_
                    exact kj164 Tj162 _ (0 : Int32) Xj162 Nj162 ej162 ((by simp [own_g5, own_x, c216]))
                  ·
                    refine own_d1 603 (fun _ q => XS.ifNo Xj162.here hx rfl (hb hby at_600) rfl ((if0 _ _).trans (feq c216).1) q) ?_
                    refine own_tp (.ref b52) 605 (fun _ q => XS.aload Xj162.here hx rfl (hb hby at_603) rfl rfl q) ?_
                    refine own_tp (.int (5 : Int32)) 606 (fun _ q => XS.iconst Xj162.here hx rfl (hb hby at_605) q) ?_
                    obtain ⟨cl217, Ar217, q217, S217, Nn217, H217, G217⟩ := (id f124)
                    have hin217 : ¬ ((5 : Int32) < 0 ∨ cl217.slots.size ≤ ((5 : Int32)).toNatClampNeg) := inb_of S217 ⟨by decide, by decide⟩
                    have hat217 : cl217.slots[((5 : Int32)).toNatClampNeg]? = some (.int ch70) := H217.at hin217 rfl
                    refine own_t2 (.int ch70) 607 (fun _ q => Xj162.caload hx (j := (5 : Int32)) (v := (.int ch70)) (by rw [ej162]; exact Ar217.1) (State.isArrayOf_alike hZ.alike Ar217.2.1) Ar217.2.2 hin217 hat217 (g := (mkF m 606 L_163 [(.int (5 : Int32)), (.ref b52)])) rfl rfl (hb hby at_606) _ q) ?_
                    obtain ⟨_, _, ⟨T218, L218, k218, n218⟩, -, X218, ⟨Lc218, hQ218, l218, y218, z218⟩, st218⟩ := Jvm.LawKit.callS Xj162 hx (y := (⟨"com/example/cited_experts/citedexperts/EmailAddressHostEndPinLaw", "isA", "(C)Z"⟩ : MethodName)) hown (mvT hZ (own_w hw 86 rfl)) (mvT hZ (own_w hw 87 rfl)) (mvT hZ (own_w hw 5 rfl)) (mvT hZ (own_w hw 88 rfl)) (by decide) (backOf (W := 0) (rm4 l Z a0 hw [] ch70 T121.heap n0 ) hZ (own_w hw 88 rfl) (own_w hw 5 rfl) (by decide) (by decide)) (g := (mkF m 607 L_163 [(.int ch70)])) rfl (by rw [hml]; rfl) (argsL := [(.int ch70)]) (rest := []) (lenOf pd1 rfl) rfl (by show 2 * 0 + _ ≤ _; exact Nat.le_of_eq rfl) (hb hby at_607) (fun _ _ => ⟨rfl, ej162, (by decide : 4 + 0 ≤ _), (by decide : 26 + 0 ≤ _)⟩)
                    dsimp only [Pt.U, Pt.locs, Pt.cells, Pt.slots] at X218 l218 y218 z218 st218 hQ218
                    subst l218 y218 z218
                    obtain ⟨rfl, Nq218, eq218⟩ := hQ218
                    have N218 := Fr.app Nj162 Nq218
                    refine own_t1 (.int (own_isA ch70)) 610 st218 ?_
                    by_cases c219 : (own_isA ch70) = (0 : Int32)
                    ·
                      refine own_d1 627 (fun _ q => XS.ifYes X218.here hx rfl (pc0 := 610) (pc' := 627) rfl (hb hby at_610) rfl ((if0 _ _).trans (teq c219).1) (by decide) (by decide) q) ?_
                      refine own_tp (.int (0 : Int32)) 628 (fun _ q => XS.iconst X218.here hx rfl (hb hby at_627) q) ?_
                      exact kj164 T218 _ (0 : Int32) X218 N218 eq218 ((by simp [own_g5, own_x, c216, c219]))
                    ·
                      refine own_d1 613 (fun _ q => XS.ifNo X218.here hx rfl (hb hby at_610) rfl ((if0 _ _).trans (feq c219).1) q) ?_
                      refine own_tp (.int z153) 615 (fun _ q => XS.iload X218.here hx rfl (hb hby at_613) rfl q) ?_
                      by_cases c220 : z153 = (0 : Int32)
                      ·
                        refine own_d1 623 (fun _ q => XS.ifYes X218.here hx rfl (pc0 := 615) (pc' := 623) rfl (hb hby at_615) rfl ((if0 _ _).trans (teq c220).1) (by decide) (by decide) q) ?_
                        refine own_tp (.int (1 : Int32)) 624 (fun _ q => XS.iconst X218.here hx rfl (hb hby at_623) q) ?_
                        refine own_d0 628 (fun _ q => XS.goto X218.here hx rfl (pc0 := 624) (pc' := 628) rfl (hb hby at_624) (by decide) (by decide) q) ?_
                        exact kj164 T218 _ (1 : Int32) X218 N218 eq218 ((by simp [own_g5, own_x, c216, c219, c220]))
                      ·
                        refine own_d1 618 (fun _ q => XS.ifNo X218.here hx rfl (hb hby at_615) rfl ((if0 _ _).trans (feq c220).1) q) ?_
                        refine own_tp (.int z156) 620 (fun _ q => XS.iload X218.here hx rfl (hb hby at_618) rfl q) ?_
                        by_cases c221 : z156 = (0 : Int32)
                        ·
                          refine own_d1 623 (fun _ q => XS.ifNo X218.here hx rfl (hb hby at_620) rfl ((if0 _ _).trans (teq c221).2) q) ?_
                          refine own_tp (.int (1 : Int32)) 624 (fun _ q => XS.iconst X218.here hx rfl (hb hby at_623) q) ?_
                          refine own_d0 628 (fun _ q => XS.goto X218.here hx rfl (pc0 := 624) (pc' := 628) rfl (hb hby at_624) (by decide) (by decide) q) ?_
                          exact kj164 T218 _ (1 : Int32) X218 N218 eq218 ((by simp [own_g5, own_x, c216, c219, c220, c221]))
                        ·
                          refine own_d1 627 (fun _ q => XS.ifYes X218.here hx rfl (pc0 := 620) (pc' := 627) rfl (hb hby at_620) rfl ((if0 _ _).trans (feq c221).2) (by decide) (by decide) q) ?_
                          refine own_tp (.int (0 : Int32)) 628 (fun _ q => XS.iconst X218.here hx rfl (hb hby at_627) q) ?_
                          exact kj164 T218 _ (0 : Int32) X218 N218 eq218 ((by simp [own_g5, own_x, c216, c219, c220, c221]))
                refine own_tp (.int z160) 568 (fun _ q => XS.iload Xj160.here hx rfl (hb hby at_566) rfl q) ?_
                by_cases c222 : z160 = (0 : Int32)
                ·
                  refine own_d1 595 (fun _ q => XS.ifYes Xj160.here hx rfl (pc0 := 568) (pc' := 595) rfl (hb hby at_568) rfl ((if0 _ _).trans (teq c222).1) (by decide) (by decide) q) ?_
                  refine own_tp (.int (0 : Int32)) 596 (fun _ q => XS.iconst Xj160.here hx rfl (hb hby at_595) q) ?_
                  exact kj162 Tj160 _ (0 : Int32) Xj160 Nj160 ej160 ((by simp [own_g5, own_x, c222]))
                ·
                  refine own_d1 571 (fun _ q => XS.ifNo Xj160.here hx rfl (hb hby at_568) rfl ((if0 _ _).trans (feq c222).1) q) ?_
                  refine own_tp (.ref b52) 573 (fun _ q => XS.aload Xj160.here hx rfl (hb hby at_571) rfl rfl q) ?_
                  refine own_tp (.int (4 : Int32)) 574 (fun _ q => XS.iconst Xj160.here hx rfl (hb hby at_573) q) ?_
                  obtain ⟨cl223, Ar223, q223, S223, Nn223, H223, G223⟩ := (id f124)
                  have hin223 : ¬ ((4 : Int32) < 0 ∨ cl223.slots.size ≤ ((4 : Int32)).toNatClampNeg) := inb_of S223 ⟨by decide, by decide⟩
                  have hat223 : cl223.slots[((4 : Int32)).toNatClampNeg]? = some (.int ch67) := H223.at hin223 rfl
                  refine own_t2 (.int ch67) 575 (fun _ q => Xj160.caload hx (j := (4 : Int32)) (v := (.int ch67)) (by rw [ej160]; exact Ar223.1) (State.isArrayOf_alike hZ.alike Ar223.2.1) Ar223.2.2 hin223 hat223 (g := (mkF m 574 L_161 [(.int (4 : Int32)), (.ref b52)])) rfl rfl (hb hby at_574) _ q) ?_
                  obtain ⟨_, _, ⟨T224, L224, k224, n224⟩, -, X224, ⟨Lc224, hQ224, l224, y224, z224⟩, st224⟩ := Jvm.LawKit.callS Xj160 hx (y := (⟨"com/example/cited_experts/citedexperts/EmailAddressHostEndPinLaw", "isA", "(C)Z"⟩ : MethodName)) hown (mvT hZ (own_w hw 86 rfl)) (mvT hZ (own_w hw 87 rfl)) (mvT hZ (own_w hw 5 rfl)) (mvT hZ (own_w hw 88 rfl)) (by decide) (backOf (W := 0) (rm4 l Z a0 hw [] ch67 T121.heap n0 ) hZ (own_w hw 88 rfl) (own_w hw 5 rfl) (by decide) (by decide)) (g := (mkF m 575 L_161 [(.int ch67)])) rfl (by rw [hml]; rfl) (argsL := [(.int ch67)]) (rest := []) (lenOf pd1 rfl) rfl (by show 2 * 0 + _ ≤ _; exact Nat.le_of_eq rfl) (hb hby at_575) (fun _ _ => ⟨rfl, ej160, (by decide : 4 + 0 ≤ _), (by decide : 26 + 0 ≤ _)⟩)
                  dsimp only [Pt.U, Pt.locs, Pt.cells, Pt.slots] at X224 l224 y224 z224 st224 hQ224
                  subst l224 y224 z224
                  obtain ⟨rfl, Nq224, eq224⟩ := hQ224
                  have N224 := Fr.app Nj160 Nq224
                  refine own_t1 (.int (own_isA ch67)) 578 st224 ?_
                  by_cases c225 : (own_isA ch67) = (0 : Int32)
                  ·
                    refine own_d1 595 (fun _ q => XS.ifYes X224.here hx rfl (pc0 := 578) (pc' := 595) rfl (hb hby at_578) rfl ((if0 _ _).trans (teq c225).1) (by decide) (by decide) q) ?_
                    refine own_tp (.int (0 : Int32)) 596 (fun _ q => XS.iconst X224.here hx rfl (hb hby at_595) q) ?_
                    exact kj162 T224 _ (0 : Int32) X224 N224 eq224 ((by simp [own_g5, own_x, c222, c225]))
                  ·
                    refine own_d1 581 (fun _ q => XS.ifNo X224.here hx rfl (hb hby at_578) rfl ((if0 _ _).trans (feq c225).1) q) ?_
                    refine own_tp (.int z150) 583 (fun _ q => XS.iload X224.here hx rfl (hb hby at_581) rfl q) ?_
                    by_cases c226 : z150 = (0 : Int32)
                    ·
                      refine own_d1 591 (fun _ q => XS.ifYes X224.here hx rfl (pc0 := 583) (pc' := 591) rfl (hb hby at_583) rfl ((if0 _ _).trans (teq c226).1) (by decide) (by decide) q) ?_
                      refine own_tp (.int (1 : Int32)) 592 (fun _ q => XS.iconst X224.here hx rfl (hb hby at_591) q) ?_
                      refine own_d0 596 (fun _ q => XS.goto X224.here hx rfl (pc0 := 592) (pc' := 596) rfl (hb hby at_592) (by decide) (by decide) q) ?_
                      exact kj162 T224 _ (1 : Int32) X224 N224 eq224 ((by simp [own_g5, own_x, c222, c225, c226]))
                    ·
                      refine own_d1 586 (fun _ q => XS.ifNo X224.here hx rfl (hb hby at_583) rfl ((if0 _ _).trans (feq c226).1) q) ?_
                      refine own_tp (.int z153) 588 (fun _ q => XS.iload X224.here hx rfl (hb hby at_586) rfl q) ?_
                      by_cases c227 : z153 = (0 : Int32)
                      ·
                        refine own_d1 591 (fun _ q => XS.ifNo X224.here hx rfl (hb hby at_588) rfl ((if0 _ _).trans (teq c227).2) q) ?_
                        refine own_tp (.int (1 : Int32)) 592 (fun _ q => XS.iconst X224.here hx rfl (hb hby at_591) q) ?_
                        refine own_d0 596 (fun _ q => XS.goto X224.here hx rfl (pc0 := 592) (pc' := 596) rfl (hb hby at_592) (by decide) (by decide) q) ?_
                        exact kj162 T224 _ (1 : Int32) X224 N224 eq224 ((by simp [own_g5, own_x, c222, c225, c226, c227]))
                      ·
                        refine own_d1 595 (fun _ q => XS.ifYes X224.here hx rfl (pc0 := 588) (pc' := 595) rfl (hb hby at_588) rfl ((if0 _ _).trans (feq c227).2) (by decide) (by decide) q) ?_
                        refine own_tp (.int (0 : Int32)) 596 (fun _ q => XS.iconst X224.here hx rfl (hb hby at_595) q) ?_
                        exact kj162 T224 _ (0 : Int32) X224 N224 eq224 ((by simp [own_g5, own_x, c222, c225, c226, c227]))
              by_cases c228 : (own_isA ch54) = (0 : Int32)
              ·
                refine own_d1 563 (fun _ q => XS.ifYes X159.here hx rfl (pc0 := 501) (pc' := 563) rfl (hb hby at_501) rfl ((if0 _ _).trans (teq c228).1) (by decide) (by decide) q) ?_
                refine own_tp (.int (0 : Int32)) 564 (fun _ q => XS.iconst X159.here hx rfl (hb hby at_563) q) ?_
                exact kj160 T159 _ (0 : Int32) X159 N159 eq159 ((by simp [own_g4, own_x, c228]))
              ·
                refine own_d1 504 (fun _ q => XS.ifNo X159.here hx rfl (hb hby at_501) rfl ((if0 _ _).trans (feq c228).1) q) ?_
                refine own_tp (.ref b52) 506 (fun _ q => XS.aload X159.here hx rfl (hb hby at_504) rfl rfl q) ?_
                refine own_tp (.int (1 : Int32)) 507 (fun _ q => XS.iconst X159.here hx rfl (hb hby at_506) q) ?_
                obtain ⟨cl229, Ar229, q229, S229, Nn229, H229, G229⟩ := (id f124)
                have hin229 : ¬ ((1 : Int32) < 0 ∨ cl229.slots.size ≤ ((1 : Int32)).toNatClampNeg) := inb_of S229 ⟨by decide, by decide⟩
                have hat229 : cl229.slots[((1 : Int32)).toNatClampNeg]? = some (.int ch57) := H229.at hin229 rfl
                refine own_t2 (.int ch57) 508 (fun _ q => X159.caload hx (j := (1 : Int32)) (v := (.int ch57)) (by rw [eq159]; exact Ar229.1) (State.isArrayOf_alike hZ.alike Ar229.2.1) Ar229.2.2 hin229 hat229 (g := (mkF m 507 L_157 [(.int (1 : Int32)), (.ref b52)])) rfl rfl (hb hby at_507) _ q) ?_
                obtain ⟨_, _, ⟨T230, L230, k230, n230⟩, -, X230, ⟨Lc230, hQ230, l230, y230, z230⟩, st230⟩ := Jvm.LawKit.callS X159 hx (y := (⟨"com/example/cited_experts/citedexperts/EmailAddressHostEndPinLaw", "isA", "(C)Z"⟩ : MethodName)) hown (mvT hZ (own_w hw 86 rfl)) (mvT hZ (own_w hw 87 rfl)) (mvT hZ (own_w hw 5 rfl)) (mvT hZ (own_w hw 88 rfl)) (by decide) (backOf (W := 0) (rm4 l Z a0 hw [] ch57 T121.heap n0 ) hZ (own_w hw 88 rfl) (own_w hw 5 rfl) (by decide) (by decide)) (g := (mkF m 508 L_157 [(.int ch57)])) rfl (by rw [hml]; rfl) (argsL := [(.int ch57)]) (rest := []) (lenOf pd1 rfl) rfl (by show 2 * 0 + _ ≤ _; exact Nat.le_of_eq rfl) (hb hby at_508) (fun _ _ => ⟨rfl, eq159, (by decide : 4 + 0 ≤ _), (by decide : 26 + 0 ≤ _)⟩)
                dsimp only [Pt.U, Pt.locs, Pt.cells, Pt.slots] at X230 l230 y230 z230 st230 hQ230
                subst l230 y230 z230
                obtain ⟨rfl, Nq230, eq230⟩ := hQ230
                have N230 := Fr.app N159 Nq230
                refine own_t1 (.int (own_isA ch57)) 511 st230 ?_
                by_cases c231 : (own_isA ch57) = (0 : Int32)
                ·
                  refine own_d1 563 (fun _ q => XS.ifYes X230.here hx rfl (pc0 := 511) (pc' := 563) rfl (hb hby at_511) rfl ((if0 _ _).trans (teq c231).1) (by decide) (by decide) q) ?_
                  refine own_tp (.int (0 : Int32)) 564 (fun _ q => XS.iconst X230.here hx rfl (hb hby at_563) q) ?_
                  exact kj160 T230 _ (0 : Int32) X230 N230 eq230 ((by simp [own_g4, own_x, c228, c231]))
                ·
                  refine own_d1 514 (fun _ q => XS.ifNo X230.here hx rfl (hb hby at_511) rfl ((if0 _ _).trans (feq c231).1) q) ?_
                  refine own_tp (.ref b52) 516 (fun _ q => XS.aload X230.here hx rfl (hb hby at_514) rfl rfl q) ?_
                  refine own_tp (.int (2 : Int32)) 517 (fun _ q => XS.iconst X230.here hx rfl (hb hby at_516) q) ?_
                  obtain ⟨cl232, Ar232, q232, S232, Nn232, H232, G232⟩ := (id f124)
                  have hin232 : ¬ ((2 : Int32) < 0 ∨ cl232.slots.size ≤ ((2 : Int32)).toNatClampNeg) := inb_of S232 ⟨by decide, by decide⟩
                  have hat232 : cl232.slots[((2 : Int32)).toNatClampNeg]? = some (.int ch60) := H232.at hin232 rfl
                  refine own_t2 (.int ch60) 518 (fun _ q => X230.caload hx (j := (2 : Int32)) (v := (.int ch60)) (by rw [eq230]; exact Ar232.1) (State.isArrayOf_alike hZ.alike Ar232.2.1) Ar232.2.2 hin232 hat232 (g := (mkF m 517 L_157 [(.int (2 : Int32)), (.ref b52)])) rfl rfl (hb hby at_517) _ q) ?_
                  obtain ⟨_, _, ⟨T233, L233, k233, n233⟩, -, X233, ⟨Lc233, hQ233, l233, y233, z233⟩, st233⟩ := Jvm.LawKit.callS X230 hx (y := (⟨"com/example/cited_experts/citedexperts/EmailAddressHostEndPinLaw", "isA", "(C)Z"⟩ : MethodName)) hown (mvT hZ (own_w hw 86 rfl)) (mvT hZ (own_w hw 87 rfl)) (mvT hZ (own_w hw 5 rfl)) (mvT hZ (own_w hw 88 rfl)) (by decide) (backOf (W := 0) (rm4 l Z a0 hw [] ch60 T121.heap n0 ) hZ (own_w hw 88 rfl) (own_w hw 5 rfl) (by decide) (by decide)) (g := (mkF m 518 L_157 [(.int ch60)])) rfl (by rw [hml]; rfl) (argsL := [(.int ch60)]) (rest := []) (lenOf pd1 rfl) rfl (by show 2 * 0 + _ ≤ _; exact Nat.le_of_eq rfl) (hb hby at_518) (fun _ _ => ⟨rfl, eq230, (by decide : 4 + 0 ≤ _), (by decide : 26 + 0 ≤ _)⟩)
                  dsimp only [Pt.U, Pt.locs, Pt.cells, Pt.slots] at X233 l233 y233 z233 st233 hQ233
                  subst l233 y233 z233
                  obtain ⟨rfl, Nq233, eq233⟩ := hQ233
                  have N233 := Fr.app N230 Nq233
                  refine own_t1 (.int (own_isA ch60)) 521 st233 ?_
                  by_cases c234 : (own_isA ch60) = (0 : Int32)
                  ·
                    refine own_d1 563 (fun _ q => XS.ifYes X233.here hx rfl (pc0 := 521) (pc' := 563) rfl (hb hby at_521) rfl ((if0 _ _).trans (teq c234).1) (by decide) (by decide) q) ?_
                    refine own_tp (.int (0 : Int32)) 564 (fun _ q => XS.iconst X233.here hx rfl (hb hby at_563) q) ?_
                    exact kj160 T233 _ (0 : Int32) X233 N233 eq233 ((by simp [own_g4, own_x, c228, c231, c234]))
                  ·
                    refine own_d1 524 (fun _ q => XS.ifNo X233.here hx rfl (hb hby at_521) rfl ((if0 _ _).trans (feq c234).1) q) ?_
                    refine own_tp (.ref b52) 526 (fun _ q => XS.aload X233.here hx rfl (hb hby at_524) rfl rfl q) ?_
                    refine own_tp (.int (3 : Int32)) 527 (fun _ q => XS.iconst X233.here hx rfl (hb hby at_526) q) ?_
                    obtain ⟨cl235, Ar235, q235, S235, Nn235, H235, G235⟩ := (id f124)
                    have hin235 : ¬ ((3 : Int32) < 0 ∨ cl235.slots.size ≤ ((3 : Int32)).toNatClampNeg) := inb_of S235 ⟨by decide, by decide⟩
                    have hat235 : cl235.slots[((3 : Int32)).toNatClampNeg]? = some (.int ch64) := H235.at hin235 rfl
                    refine own_t2 (.int ch64) 528 (fun _ q => X233.caload hx (j := (3 : Int32)) (v := (.int ch64)) (by rw [eq233]; exact Ar235.1) (State.isArrayOf_alike hZ.alike Ar235.2.1) Ar235.2.2 hin235 hat235 (g := (mkF m 527 L_157 [(.int (3 : Int32)), (.ref b52)])) rfl rfl (hb hby at_527) _ q) ?_
                    obtain ⟨_, _, ⟨T236, L236, k236, n236⟩, -, X236, ⟨Lc236, hQ236, l236, y236, z236⟩, st236⟩ := Jvm.LawKit.callS X233 hx (y := (⟨"com/example/cited_experts/citedexperts/EmailAddressHostEndPinLaw", "isA", "(C)Z"⟩ : MethodName)) hown (mvT hZ (own_w hw 86 rfl)) (mvT hZ (own_w hw 87 rfl)) (mvT hZ (own_w hw 5 rfl)) (mvT hZ (own_w hw 88 rfl)) (by decide) (backOf (W := 0) (rm4 l Z a0 hw [] ch64 T121.heap n0 ) hZ (own_w hw 88 rfl) (own_w hw 5 rfl) (by decide) (by decide)) (g := (mkF m 528 L_157 [(.int ch64)])) rfl (by rw [hml]; rfl) (argsL := [(.int ch64)]) (rest := []) (lenOf pd1 rfl) rfl (by show 2 * 0 + _ ≤ _; exact Nat.le_of_eq rfl) (hb hby at_528) (fun _ _ => ⟨rfl, eq233, (by decide : 4 + 0 ≤ _), (by decide : 26 + 0 ≤ _)⟩)
                    dsimp only [Pt.U, Pt.locs, Pt.cells, Pt.slots] at X236 l236 y236 z236 st236 hQ236
                    subst l236 y236 z236
                    obtain ⟨rfl, Nq236, eq236⟩ := hQ236
                    have N236 := Fr.app N233 Nq236
                    refine own_t1 (.int (own_isA ch64)) 531 st236 ?_
                    by_cases c237 : (own_isA ch64) = (0 : Int32)
                    ·
                      refine own_d1 563 (fun _ q => XS.ifYes X236.here hx rfl (pc0 := 531) (pc' := 563) rfl (hb hby at_531) rfl ((if0 _ _).trans (teq c237).1) (by decide) (by decide) q) ?_
                      refine own_tp (.int (0 : Int32)) 564 (fun _ q => XS.iconst X236.here hx rfl (hb hby at_563) q) ?_
                      exact kj160 T236 _ (0 : Int32) X236 N236 eq236 ((by simp [own_g4, own_x, c228, c231, c234, c237]))
                    ·
                      refine own_d1 534 (fun _ q => XS.ifNo X236.here hx rfl (hb hby at_531) rfl ((if0 _ _).trans (feq c237).1) q) ?_
                      refine own_tp (.int z141) 536 (fun _ q => XS.iload X236.here hx rfl (hb hby at_534) rfl q) ?_
                      by_cases c238 : z141 = (0 : Int32)
                      ·
                        refine own_d1 539 (fun _ q => XS.ifNo X236.here hx rfl (hb hby at_536) rfl ((if0 _ _).trans (teq c238).2) q) ?_
                        refine own_tp (.int z144) 541 (fun _ q => XS.iload X236.here hx rfl (hb hby at_539) rfl q) ?_
                        by_cases c239 : z144 = (0 : Int32)
                        ·
                          refine own_d1 549 (fun _ q => XS.ifYes X236.here hx rfl (pc0 := 541) (pc' := 549) rfl (hb hby at_541) rfl ((if0 _ _).trans (teq c239).1) (by decide) (by decide) q) ?_
                          refine own_tp (.int z147) 551 (fun _ q => XS.iload X236.here hx rfl (hb hby at_549) rfl q) ?_
                          by_cases c240 : z147 = (0 : Int32)
                          ·
                            refine own_d1 559 (fun _ q => XS.ifYes X236.here hx rfl (pc0 := 551) (pc' := 559) rfl (hb hby at_551) rfl ((if0 _ _).trans (teq c240).1) (by decide) (by decide) q) ?_
                            refine own_tp (.int (1 : Int32)) 560 (fun _ q => XS.iconst X236.here hx rfl (hb hby at_559) q) ?_
                            refine own_d0 564 (fun _ q => XS.goto X236.here hx rfl (pc0 := 560) (pc' := 564) rfl (hb hby at_560) (by decide) (by decide) q) ?_
                            exact kj160 T236 _ (1 : Int32) X236 N236 eq236 ((by simp [own_g4, own_x, c228, c231, c234, c237, c238, c239, c240]))
                          ·
                            refine own_d1 554 (fun _ q => XS.ifNo X236.here hx rfl (hb hby at_551) rfl ((if0 _ _).trans (feq c240).1) q) ?_
                            refine own_tp (.int z150) 556 (fun _ q => XS.iload X236.here hx rfl (hb hby at_554) rfl q) ?_
                            by_cases c241 : z150 = (0 : Int32)
                            ·
                              refine own_d1 559 (fun _ q => XS.ifNo X236.here hx rfl (hb hby at_556) rfl ((if0 _ _).trans (teq c241).2) q) ?_
                              refine own_tp (.int (1 : Int32)) 560 (fun _ q => XS.iconst X236.here hx rfl (hb hby at_559) q) ?_
                              refine own_d0 564 (fun _ q => XS.goto X236.here hx rfl (pc0 := 560) (pc' := 564) rfl (hb hby at_560) (by decide) (by decide) q) ?_
                              exact kj160 T236 _ (1 : Int32) X236 N236 eq236 ((by simp [own_g4, own_x, c228, c231, c234, c237, c238, c239, c240, c241]))
                            ·
                              refine own_d1 563 (fun _ q => XS.ifYes X236.here hx rfl (pc0 := 556) (pc' := 563) rfl (hb hby at_556) rfl ((if0 _ _).trans (feq c241).2) (by decide) (by decide) q) ?_
                              refine own_tp (.int (0 : Int32)) 564 (fun _ q => XS.iconst X236.here hx rfl (hb hby at_563) q) ?_
                              exact kj160 T236 _ (0 : Int32) X236 N236 eq236 ((by simp [own_g4, own_x, c228, c231, c234, c237, c238, c239, c240, c241]))
                        ·
                          refine own_d1 544 (fun _ q => XS.ifNo X236.here hx rfl (hb hby at_541) rfl ((if0 _ _).trans (feq c239).1) q) ?_
                          refine own_tp (.int z147) 546 (fun _ q => XS.iload X236.here hx rfl (hb hby at_544) rfl q) ?_
                          by_cases c242 : z147 = (0 : Int32)
                          ·
                            refine own_d1 549 (fun _ q => XS.ifNo X236.here hx rfl (hb hby at_546) rfl ((if0 _ _).trans (teq c242).2) q) ?_
                            refine own_tp (.int z147) 551 (fun _ q => XS.iload X236.here hx rfl (hb hby at_549) rfl q) ?_
                            refine own_d1 559 (fun _ q => XS.ifYes X236.here hx rfl (pc0 := 551) (pc' := 559) rfl (hb hby at_551) rfl ((if0 _ _).trans (teq c242).1) (by decide) (by decide) q) ?_
                            refine own_tp (.int (1 : Int32)) 560 (fun _ q => XS.iconst X236.here hx rfl (hb hby at_559) q) ?_
                            refine own_d0 564 (fun _ q => XS.goto X236.here hx rfl (pc0 := 560) (pc' := 564) rfl (hb hby at_560) (by decide) (by decide) q) ?_
                            exact kj160 T236 _ (1 : Int32) X236 N236 eq236 ((by simp [own_g4, own_x, c228, c231, c234, c237, c238, c239, c242]))
                          ·
                            refine own_d1 563 (fun _ q => XS.ifYes X236.here hx rfl (pc0 := 546) (pc' := 563) rfl (hb hby at_546) rfl ((if0 _ _).trans (feq c242).2) (by decide) (by decide) q) ?_
                            refine own_tp (.int (0 : Int32)) 564 (fun _ q => XS.iconst X236.here hx rfl (hb hby at_563) q) ?_
                            exact kj160 T236 _ (0 : Int32) X236 N236 eq236 ((by simp [own_g4, own_x, c228, c231, c234, c237, c238, c239, c242]))
                      ·
                        refine own_d1 563 (fun _ q => XS.ifYes X236.here hx rfl (pc0 := 536) (pc' := 563) rfl (hb hby at_536) rfl ((if0 _ _).trans (feq c238).2) (by decide) (by decide) q) ?_
                        refine own_tp (.int (0 : Int32)) 564 (fun _ q => XS.iconst X236.here hx rfl (hb hby at_563) q) ?_
                        exact kj160 T236 _ (0 : Int32) X236 N236 eq236 ((by simp [own_g4, own_x, c228, c231, c234, c237, c238]))
            by_cases c243 : ch70 = (46 : Int32)
            ·
              refine own_d2 487 (fun _ q => XS.icmpNo Xj153.here hx rfl (hb hby at_484) rfl (teq c243).2 q) ?_
              refine own_tp (.int (1 : Int32)) 488 (fun _ q => XS.iconst Xj153.here hx rfl (hb hby at_487) q) ?_
              refine own_d0 492 (fun _ q => XS.goto Xj153.here hx rfl (pc0 := 488) (pc' := 492) rfl (hb hby at_488) (by decide) (by decide) q) ?_
              exact kj156 Tj153 _ (1 : Int32) Xj153 Nj153 ej153 ((by simp [own_dt, c243]))
            ·
              refine own_d2 491 (fun _ q => XS.icmpYes Xj153.here hx rfl (pc0 := 484) (pc' := 491) rfl (hb hby at_484) rfl (feq c243).2 (by decide) (by decide) q) ?_
              refine own_tp (.int (0 : Int32)) 492 (fun _ q => XS.iconst Xj153.here hx rfl (hb hby at_491) q) ?_
              exact kj156 Tj153 _ (0 : Int32) Xj153 Nj153 ej153 ((by simp [own_dt, c243]))
          by_cases c244 : ch67 = (46 : Int32)
          ·
            refine own_d2 471 (fun _ q => XS.icmpNo Xj150.here hx rfl (hb hby at_468) rfl (teq c244).2 q) ?_
            refine own_tp (.int (1 : Int32)) 472 (fun _ q => XS.iconst Xj150.here hx rfl (hb hby at_471) q) ?_
            refine own_d0 476 (fun _ q => XS.goto Xj150.here hx rfl (pc0 := 472) (pc' := 476) rfl (hb hby at_472) (by decide) (by decide) q) ?_
            exact kj153 Tj150 _ (1 : Int32) Xj150 Nj150 ej150 ((by simp [own_dt, c244]))
          ·
            refine own_d2 475 (fun _ q => XS.icmpYes Xj150.here hx rfl (pc0 := 468) (pc' := 475) rfl (hb hby at_468) rfl (feq c244).2 (by decide) (by decide) q) ?_
            refine own_tp (.int (0 : Int32)) 476 (fun _ q => XS.iconst Xj150.here hx rfl (hb hby at_475) q) ?_
            exact kj153 Tj150 _ (0 : Int32) Xj150 Nj150 ej150 ((by simp [own_dt, c244]))
        by_cases c245 : ch64 = (46 : Int32)
        ·
          refine own_d2 455 (fun _ q => XS.icmpNo Xj147.here hx rfl (hb hby at_452) rfl (teq c245).2 q) ?_
          refine own_tp (.int (1 : Int32)) 456 (fun _ q => XS.iconst Xj147.here hx rfl (hb hby at_455) q) ?_
          refine own_d0 460 (fun _ q => XS.goto Xj147.here hx rfl (pc0 := 456) (pc' := 460) rfl (hb hby at_456) (by decide) (by decide) q) ?_
          exact kj150 Tj147 _ (1 : Int32) Xj147 Nj147 ej147 ((by simp [own_dt, c245]))
        ·
          refine own_d2 459 (fun _ q => XS.icmpYes Xj147.here hx rfl (pc0 := 452) (pc' := 459) rfl (hb hby at_452) rfl (feq c245).2 (by decide) (by decide) q) ?_
          refine own_tp (.int (0 : Int32)) 460 (fun _ q => XS.iconst Xj147.here hx rfl (hb hby at_459) q) ?_
          exact kj150 Tj147 _ (0 : Int32) Xj147 Nj147 ej147 ((by simp [own_dt, c245]))
      by_cases c246 : ch60 = (46 : Int32)
      ·
        refine own_d2 439 (fun _ q => XS.icmpNo Xj144.here hx rfl (hb hby at_436) rfl (teq c246).2 q) ?_
        refine own_tp (.int (1 : Int32)) 440 (fun _ q => XS.iconst Xj144.here hx rfl (hb hby at_439) q) ?_
        refine own_d0 444 (fun _ q => XS.goto Xj144.here hx rfl (pc0 := 440) (pc' := 444) rfl (hb hby at_440) (by decide) (by decide) q) ?_
        exact kj147 Tj144 _ (1 : Int32) Xj144 Nj144 ej144 ((by simp [own_dt, c246]))
      ·
        refine own_d2 443 (fun _ q => XS.icmpYes Xj144.here hx rfl (pc0 := 436) (pc' := 443) rfl (hb hby at_436) rfl (feq c246).2 (by decide) (by decide) q) ?_
        refine own_tp (.int (0 : Int32)) 444 (fun _ q => XS.iconst Xj144.here hx rfl (hb hby at_443) q) ?_
        exact kj147 Tj144 _ (0 : Int32) Xj144 Nj144 ej144 ((by simp [own_dt, c246]))
    by_cases c247 : ch57 = (46 : Int32)
    ·
      refine own_d2 423 (fun _ q => XS.icmpNo Xj141.here hx rfl (hb hby at_420) rfl (teq c247).2 q) ?_
      refine own_tp (.int (1 : Int32)) 424 (fun _ q => XS.iconst Xj141.here hx rfl (hb hby at_423) q) ?_
      refine own_d0 428 (fun _ q => XS.goto Xj141.here hx rfl (pc0 := 424) (pc' := 428) rfl (hb hby at_424) (by decide) (by decide) q) ?_
      exact kj144 Tj141 _ (1 : Int32) Xj141 Nj141 ej141 ((by simp [own_dt, c247]))
    ·
      refine own_d2 427 (fun _ q => XS.icmpYes Xj141.here hx rfl (pc0 := 420) (pc' := 427) rfl (hb hby at_420) rfl (feq c247).2 (by decide) (by decide) q) ?_
      refine own_tp (.int (0 : Int32)) 428 (fun _ q => XS.iconst Xj141.here hx rfl (hb hby at_427) q) ?_
      exact kj144 Tj141 _ (0 : Int32) Xj141 Nj141 ej141 ((by simp [own_dt, c247]))
  by_cases c248 : ch54 = (46 : Int32)
  ·
    refine own_d2 407 (fun _ q => XS.icmpNo X138.here hx rfl (hb hby at_404) rfl (teq c248).2 q) ?_
    refine own_tp (.int (1 : Int32)) 408 (fun _ q => XS.iconst X138.here hx rfl (hb hby at_407) q) ?_
    refine own_d0 412 (fun _ q => XS.goto X138.here hx rfl (pc0 := 408) (pc' := 412) rfl (hb hby at_408) (by decide) (by decide) q) ?_
    exact kj141 T138 _ (1 : Int32) X138 N138 eq138 ((by simp [own_dt, c248]))
  ·
    refine own_d2 411 (fun _ q => XS.icmpYes X138.here hx rfl (pc0 := 404) (pc' := 411) rfl (hb hby at_404) rfl (feq c248).2 (by decide) (by decide) q) ?_
    refine own_tp (.int (0 : Int32)) 412 (fun _ q => XS.iconst X138.here hx rfl (hb hby at_411) q) ?_
    exact kj141 T138 _ (0 : Int32) X138 N138 eq138 ((by simp [own_dt, c248]))

set_option maxRecDepth 65536 in
set_option maxHeartbeats 40000000 in
theorem comes_1 {Post : Tables → Env → Array Value → State → Outcome → State → Prop} (hpost : ∀ tb e args s v u, (limb_1_1.after args s (.returned v) u = true ∧ limb_1_2.after args s (.returned v) u = true ∧ True) → FrameEnd s (.returned v) u (Jvm.fieldLocs frame_1_writes args s ++ Jvm.arrayLocs frame_1_arrays args s ++ Jvm.staticLocs frame_1_statics s) 16 128 → Post tb e args s (.returned v) u) :
    ArmFor flags0 classFile x code maxLocals ret World_1 tables_1 room_1 Calls_1 rest_1 Pre_1 Post := by
  intro l hfl _ _ p e ha hc hk s m args below hf hA hF happ hP
  obtain ⟨hcalls, hrest, hpre⟩ := hP
  obtain ⟨-, -, -, hnamed, -, -, -, hat⟩ := (Spec.applies_iff hf).mp happ
  obtain ⟨hg, hn⟩ := and_e (Cond.before_iff.mp (show (Jvm.Cond.and given_1 narrow_1).before args s = true from hpre))
  obtain ⟨hcount, hg0⟩ := and_e hg
  obtain ⟨hv0, hg1⟩ := and_e hg0
  obtain ⟨hv1, hg2⟩ := and_e hg1
  obtain ⟨hv2, hg3⟩ := and_e hg2
  obtain ⟨w0, w1, w2, w3, rfl⟩ : ∃ w0 w1 w2 w3 : Value, args = #[w0, w1, w2, w3] := by
    have hs : args.size = 4 := by simpa [Cond.value, given_1] using hcount
    obtain ⟨L⟩ := args
    match L, hs with
    | [w0, w1, w2, w3], _ => exact ⟨w0, w1, w2, w3, rfl⟩
  have hw := fun d (hd : d ∈ tables_1) => atoms_spec (ws := Jvm.Cond.code x code maxLocals ret :: tables_1) hat d (List.mem_cons_of_mem _ hd)
  have hfit : Fit s := fun {y c} hc i hi => by
    obtain ⟨ha, rfl⟩ := Array.getElem?_eq_some_iff.mp hc
    have q := List.all_eq_true.mp ((Array.all_eq_true_iff_forall_mem.mp hF) _ (Array.getElem_mem ha)) i (List.mem_range.mpr hi)
    simpa [Array.getElem?_eq_getElem hi] using q
  obtain ⟨i0, ei0⟩ := isL_v hv0
  obtain rfl : w0 = (.long i0) := Option.some.inj ei0
  obtain ⟨i1, ei1⟩ := isL_v hv1
  obtain rfl : w1 = (.long i1) := Option.some.inj ei1
  obtain ⟨i2, ei2⟩ := is_v hv2
  obtain rfl : w2 = (.int i2) := Option.some.inj ei2
  obtain ⟨i3, ei3⟩ := is_v hg3
  obtain rfl : w3 = (.int i3) := Option.some.inj ei3
  obtain ⟨hsets, hown0⟩ := atoms_of _ (rest_1_c_eq ▸ (show rest_1_c.before _ s = true from hrest))
  obtain ⟨G1, eG1⟩ := is_v (Cond.before_iff.mp (hsets _ (List.mem_of_getElem? (i := 1) rfl)))
  have Sc : Sta s s.heap "java/lang/String" "COMPACT_STRINGS" "Z" (.int G1) := Sta.start eG1 (Or.inl (hsets _ (List.mem_of_getElem? (i := 0) rfl)))
  have P5 : ¬ (G1 = (0 : Int32)) := gotF (Cond.eq_ints eG1 (Term.int_eval (0))) (not_v (Cond.before_iff.mp (hsets _ (List.mem_of_getElem? (i := 2) rfl))))
  obtain ⟨G3, eG3, rG3⟩ := isR_v (Cond.before_iff.mp (hsets _ (List.mem_of_getElem? (i := 8) rfl)))
  have Sf : Sta s s.heap "jdk/internal/util/Preconditions" "SIOOBE_FORMATTER" "Ljava/util/function/BiFunction;" G3 := Sta.start eG3 (Or.inl (hsets _ (List.mem_of_getElem? (i := 7) rfl)))
  obtain ⟨n, o, h1, h2, h3, _, L, rfl, ⟨rfl, N⟩, hq⟩ := rm0 l s _ hw tables_1 i0 i1 i2 i3 s.heap s.heap.size (Nat.le_refl _) G1 P5 (Old.start s) Sc G3 rG3 Sf p e ha hc hk s m _ below hf ((Spec.applies_iff_loose hf).mp happ).1 ⟨rfl, State.Warmed39.refl s, rfl⟩ trivial
  refine ⟨n, _, h1, h2, h3, hpost _ _ _ _ _ _ ⟨Cond.after_iff.mpr rfl, Cond.after_iff.mpr (eq_i res_at (Term.int_eval (1)) rfl), trivial⟩ ⟨hq.1, hq.2.1, (hq.2.2.sift fun y hy => Or.inr (N y hy)).mono (by decide) (by decide)⟩⟩
theorem main_1_1 : Claimed_1_1 := comes_1 fun _ _ _ _ _ _ h hF => ⟨h.1, hF⟩
theorem main_1_2 : Claimed_1_2 := comes_1 fun _ _ _ _ _ _ h hF => ⟨h.2.1, hF⟩
end Jvm.Pilot.@@N@@
namespace Jvm.Pilot.@@N@@
open Jvm Jvm.ClassFile Sem Op Lib Jvm.Free Jvm.Stand Jvm.Pilot.@@N@@.Jvm.D
/-! MADE BY PROGRAM (witnessworld.py) out of the Statement's table words and the real class files: 20 classes; the members and pool entries that the words name. The judged class is class 1, her method 1. -/
namespace start1
open Jvm.ClassFile
def u (s : String) : CpInfo := .utf8 (stringToUtf16 s)
/-- a pool by its gaps: so many unusable entries, then the entry; so many at the end -/
def gap : Nat → List CpInfo → List CpInfo
  | 0, r => r
  | n + 1, r => .unusable :: gap n r
def poolList (es : List (Nat × CpInfo)) (last : Nat) : List CpInfo := es.foldr (fun e r => gap e.1 (e.2 :: r)) (gap last [])
def pool (es : List (Nat × CpInfo)) (last : Nat) : Array CpInfo := ⟨poolList es last⟩
def fileOf (pool : Array CpInfo) (this : Nat) (attrs : Array Attribute := #[]) (ms : Array MethodInfo := #[]) (fl : Nat := 33) (sup : Nat := 0) (ifs : Array Nat := #[]) (fds : Array FieldInfo := #[]) : ClassFile where
  minorVersion := 0
  majorVersion := 65
  constantPool := pool
  accessFlags := fl
  thisClass := this
  superClass := sup
  interfaces := ifs
  fields := fds
  methods := ms
  attributes := attrs
def plain (name : String) (sup : Option ClassId) : Class where
  name := name
  kind := .ordinary
  loader := none
  accessFlags := 33
  super := sup
  interfaces := #[]
  cf := none
  fields := #[]
  methods := #[]
  instanceTypes := #[]
  staticTypes := #[]
  resolved := #[]
  callSites := []
  init := .initialized
  statics := none
  mirror := none

def pool0 : Array CpInfo := pool [(5, u "<init>"), (0, u "()V"), (1, .class_ 10), (1, u "java/lang/Object")] 113

def k0c0 : Code := { maxStack := 0, maxLocals := 1, code := object_method_1_code, exceptionTable := #[], attributes := #[] }
def k0m0 : Method := { name := "<init>", desc := "()V", sig := { parameters := [], returnType := none }, accessFlags := 1, code := some k0c0 }
/-- java/lang/Object -/
def k0 : Class := { plain "java/lang/Object" none with
  accessFlags := 33
  interfaces := #[]
  cf := some (fileOf pool0 8 #[] #[{ accessFlags := 1, nameIndex := 5, descriptorIndex := 6, attributes := #[] }] 33 0 #[] #[])
  fields := #[]
  methods := #[k0m0]
  instanceTypes := #[]
  staticTypes := #[]
  resolved := Array.replicate 124 none
  statics := none }

def pool1 : Array CpInfo := pool [(2, .class_ 4), (1, u "java/lang/Object"), (0, u "<init>"), (0, u "()V"), (0, .long 255), (1, .long 7), (1, .methodref 12 13), (0, .class_ 14), (0, .nameAndType 15 16), (0, u "com/example/cited_experts/citedexperts/EmailAddressHostEndPinLaw"), (0, u "pick"), (0, u "(II)C"), (0, .integer 2147483647), (0, .methodref 12 19), (0, .nameAndType 20 21), (0, u "slot"), (0, u "([CCCII)C"), (0, .class_ 23), (0, u "java/lang/String"), (0, .methodref 22 25), (0, .nameAndType 5 26), (0, u "([C)V"), (0, .methodref 28 29), (0, .class_ 30), (0, .nameAndType 31 32), (0, u "com/example/cited_experts/citedexperts/EmailAddress"), (0, u "hostEnd"), (0, u "(Ljava/lang/CharSequence;I)I"), (0, .methodref 12 34), (0, .nameAndType 35 36), (0, u "isL"), (0, u "(C)Z"), (0, .methodref 12 38), (0, .nameAndType 39 36), (0, u "isA"), (2, u "law"), (0, u "(JJII)Z")] 5

def k1m0 : Method := { name := "<init>", desc := "()V", sig := { parameters := [], returnType := none }, accessFlags := 1, code := none }
def k1c1 : Code := { maxStack := 7, maxLocals := 30, code := code, exceptionTable := #[], attributes := #[] }
def k1m1 : Method := { name := "law", desc := "(JJII)Z", sig := { parameters := [.long, .long, .int, .int], returnType := some .boolean }, accessFlags := 9, code := some k1c1 }
def k1c2 : Code := { maxStack := 3, maxLocals := 2, code := method_3_code, exceptionTable := #[], attributes := #[] }
def k1m2 : Method := { name := "pick", desc := "(II)C", sig := { parameters := [.int, .int], returnType := some .char }, accessFlags := 10, code := some k1c2 }
def k1c3 : Code := { maxStack := 2, maxLocals := 6, code := method_4_code, exceptionTable := #[], attributes := #[] }
def k1m3 : Method := { name := "slot", desc := "([CCCII)C", sig := { parameters := [(.array .char), .char, .char, .int, .int], returnType := some .char }, accessFlags := 10, code := some k1c3 }
def k1c4 : Code := { maxStack := 2, maxLocals := 1, code := method_5_code, exceptionTable := #[], attributes := #[] }
def k1m4 : Method := { name := "isL", desc := "(C)Z", sig := { parameters := [.char], returnType := some .boolean }, accessFlags := 10, code := some k1c4 }
def k1c5 : Code := { maxStack := 2, maxLocals := 1, code := method_6_code, exceptionTable := #[], attributes := #[] }
def k1m5 : Method := { name := "isA", desc := "(C)Z", sig := { parameters := [.char], returnType := some .boolean }, accessFlags := 10, code := some k1c5 }
/-- com/example/cited_experts/citedexperts/EmailAddressHostEndPinLaw -/
def k1 : Class := { plain "com/example/cited_experts/citedexperts/EmailAddressHostEndPinLaw" (some 0) with
  accessFlags := 49
  interfaces := #[]
  cf := some (fileOf pool1 12 #[] #[{ accessFlags := 1, nameIndex := 5, descriptorIndex := 6, attributes := #[] }, { accessFlags := 9, nameIndex := 42, descriptorIndex := 43, attributes := #[] }, { accessFlags := 10, nameIndex := 15, descriptorIndex := 16, attributes := #[] }, { accessFlags := 10, nameIndex := 20, descriptorIndex := 21, attributes := #[] }, { accessFlags := 10, nameIndex := 35, descriptorIndex := 36, attributes := #[] }, { accessFlags := 10, nameIndex := 39, descriptorIndex := 36, attributes := #[] }] 49 2 #[] #[])
  fields := #[]
  methods := #[k1m0, k1m1, k1m2, k1m3, k1m4, k1m5]
  instanceTypes := #[]
  staticTypes := #[]
  resolved := Array.replicate 49 none
  statics := none }

def pool2 : Array CpInfo := pool [(1, .class_ 2), (0, u "java/io/Serializable"), (0, .class_ 4), (0, u "java/lang/Object")] 2

/-- java/io/Serializable -/
def k2 : Class := { plain "java/io/Serializable" (some 0) with
  accessFlags := 1537
  interfaces := #[]
  cf := some (fileOf pool2 1 #[] #[] 1537 3 #[] #[])
  fields := #[]
  methods := #[]
  instanceTypes := #[]
  staticTypes := #[]
  resolved := Array.replicate 7 none
  statics := none }

def pool3 : Array CpInfo := pool [(1, .class_ 2), (0, u "java/lang/Comparable"), (0, .class_ 4), (0, u "java/lang/Object")] 7

/-- java/lang/Comparable -/
def k3 : Class := { plain "java/lang/Comparable" (some 0) with
  accessFlags := 1537
  interfaces := #[]
  cf := some (fileOf pool3 1 #[] #[] 1537 3 #[] #[])
  fields := #[]
  methods := #[]
  instanceTypes := #[]
  staticTypes := #[]
  resolved := Array.replicate 12 none
  statics := none }

def pool4 : Array CpInfo := pool [(2, .class_ 4), (1, u "java/lang/CharSequence"), (0, u "length"), (0, u "()I"), (38, u "charAt"), (0, u "(I)C"), (0, .class_ 48), (0, u "java/lang/CharSequence$1CodePointIterator"), (10, .class_ 60), (0, u "java/lang/CharSequence$1CharIterator"), (5, .class_ 67), (0, u "java/lang/Object")] 63

def k4m0 : Method := { name := "length", desc := "()I", sig := { parameters := [], returnType := some .int }, accessFlags := 1025, code := none }
def k4m1 : Method := { name := "charAt", desc := "(I)C", sig := { parameters := [.int], returnType := some .char }, accessFlags := 1025, code := none }
/-- java/lang/CharSequence -/
def k4 : Class := { plain "java/lang/CharSequence" (some 0) with
  accessFlags := 1537
  interfaces := #[]
  cf := some (fileOf pool4 2 #[.nestMembers #[47, 59]] #[{ accessFlags := 1025, nameIndex := 5, descriptorIndex := 6, attributes := #[] }, { accessFlags := 1025, nameIndex := 45, descriptorIndex := 46, attributes := #[] }] 1537 66 #[] #[])
  fields := #[]
  methods := #[k4m0, k4m1]
  instanceTypes := #[]
  staticTypes := #[]
  resolved := Array.replicate 131 none
  statics := none }

def pool5 : Array CpInfo := pool [(1, .class_ 2), (0, u "java/lang/constant/Constable"), (0, .class_ 4), (0, u "java/lang/Object")] 6

/-- java/lang/constant/Constable -/
def k5 : Class := { plain "java/lang/constant/Constable" (some 0) with
  accessFlags := 1537
  interfaces := #[]
  cf := some (fileOf pool5 1 #[] #[] 1537 3 #[] #[])
  fields := #[]
  methods := #[]
  instanceTypes := #[]
  staticTypes := #[]
  resolved := Array.replicate 11 none
  statics := none }

def pool6 : Array CpInfo := pool [(1, .class_ 2), (0, u "java/lang/constant/ConstantDesc"), (0, .class_ 4), (0, u "java/lang/Object")] 32

/-- java/lang/constant/ConstantDesc -/
def k6 : Class := { plain "java/lang/constant/ConstantDesc" (some 0) with
  accessFlags := 1537
  interfaces := #[]
  cf := some (fileOf pool6 1 #[] #[] 1537 3 #[] #[])
  fields := #[]
  methods := #[]
  instanceTypes := #[]
  staticTypes := #[]
  resolved := Array.replicate 37 none
  statics := none }

def pool7 : Array CpInfo := pool [(1, .methodref 2 3), (0, .class_ 4), (0, .nameAndType 5 6), (0, u "java/lang/Object"), (0, u "<init>"), (0, u "()V"), (2, .fieldref 10 11), (0, .class_ 12), (0, .nameAndType 13 14), (0, u "java/lang/String"), (0, u "value"), (0, u "[B"), (0, .fieldref 10 16), (0, .nameAndType 17 18), (0, u "coder"), (0, u "B"), (2, u "hash"), (0, u "I"), (2, u "hashIsZero"), (0, u "Z"), (0, .methodref 10 28), (0, .nameAndType 5 29), (0, u "([CIILjava/lang/Void;)V"), (8, .fieldref 10 39), (0, .nameAndType 40 26), (0, u "COMPACT_STRINGS"), (1, .class_ 44), (1, u "java/lang/StringUTF16"), (0, u "compress"), (1, .methodref 42 48), (0, .nameAndType 49 50), (0, u "coderFromArrayLen"), (0, u "([BI)B"), (56, .class_ 109), (1, u "java/lang/StringLatin1"), (32, u "()Z"), (34, .methodref 42 178), (0, .nameAndType 45 179), (0, u "([CII)[B"), (154, u "()I"), (0, .methodref 10 336), (0, .nameAndType 17 337), (0, u "()B"), (25, u "([BI)C"), (27, u "(II)V"), (35, u "(I)C"), (64, .methodref 10 493), (0, .nameAndType 494 142), (0, u "isLatin1"), (0, .methodref 107 496), (0, .nameAndType 497 363), (0, u "charAt"), (3, u "checkIndex"), (5, u "length"), (67, .class_ 576), (0, u "java/lang/CharSequence"), (22, u "CASE_INSENSITIVE_ORDER"), (0, u "Ljava/util/Comparator;"), (409, u "([C)V"), (42, .fieldref 1054 1055), (0, .class_ 1056), (0, .nameAndType 1057 1058), (0, u "jdk/internal/util/Preconditions"), (0, u "SIOOBE_FORMATTER"), (0, u "Ljava/util/function/BiFunction;"), (0, .methodref 1054 1060), (0, .nameAndType 501 1061), (0, u "(IILjava/util/function/BiFunction;)I"), (39, u "serialPersistentFields"), (0, u "[Ljava/io/ObjectStreamField;"), (0, .class_ 1104), (0, u "java/lang/String$CaseInsensitiveComparator"), (1, .class_ 1107), (0, u "java/io/Serializable"), (0, .class_ 1109), (0, u "java/lang/Comparable"), (0, .class_ 1111), (0, u "java/lang/constant/Constable"), (0, .class_ 1113), (0, u "java/lang/constant/ConstantDesc"), (2, u "serialVersionUID"), (0, u "J"), (3, u "REPL"), (0, u "C"), (2, u "LATIN1"), (1, u "UTF16")] 323

def k7m0 : Method := { name := "<init>", desc := "()V", sig := { parameters := [], returnType := none }, accessFlags := 1, code := none }
def k7c1 : Code := { maxStack := 5, maxLocals := 2, code := jdk_42_method_3_code, exceptionTable := #[], attributes := #[] }
def k7m1 : Method := { name := "<init>", desc := "([C)V", sig := { parameters := [(.array .char)], returnType := none }, accessFlags := 1, code := some k7c1 }
def k7c2 : Code := { maxStack := 2, maxLocals := 1, code := jdk_42_method_54_code, exceptionTable := #[], attributes := #[] }
def k7m2 : Method := { name := "length", desc := "()I", sig := { parameters := [], returnType := some .int }, accessFlags := 1, code := some k7c2 }
def k7c3 : Code := { maxStack := 2, maxLocals := 2, code := jdk_42_method_56_code, exceptionTable := #[], attributes := #[] }
def k7m3 : Method := { name := "charAt", desc := "(I)C", sig := { parameters := [.int], returnType := some .char }, accessFlags := 1, code := some k7c3 }
def k7c4 : Code := { maxStack := 4, maxLocals := 6, code := jdk_42_method_149_code, exceptionTable := #[], attributes := #[] }
def k7m4 : Method := { name := "<init>", desc := "([CIILjava/lang/Void;)V", sig := { parameters := [(.array .char), .int, .int, (.object "java/lang/Void")], returnType := none }, accessFlags := 2, code := some k7c4 }
def k7c5 : Code := { maxStack := 1, maxLocals := 1, code := jdk_42_method_152_code, exceptionTable := #[], attributes := #[] }
def k7m5 : Method := { name := "coder", desc := "()B", sig := { parameters := [], returnType := some .byte }, accessFlags := 0, code := some k7c5 }
def k7c6 : Code := { maxStack := 1, maxLocals := 1, code := jdk_42_method_154_code, exceptionTable := #[], attributes := #[] }
def k7m6 : Method := { name := "isLatin1", desc := "()Z", sig := { parameters := [], returnType := some .boolean }, accessFlags := 0, code := some k7c6 }
def k7c7 : Code := { maxStack := 3, maxLocals := 2, code := jdk_42_method_155_code, exceptionTable := #[], attributes := #[] }
def k7m7 : Method := { name := "checkIndex", desc := "(II)V", sig := { parameters := [.int, .int], returnType := none }, accessFlags := 8, code := some k7c7 }
/-- java/lang/String -/
def k7 : Class := { plain "java/lang/String" (some 0) with
  accessFlags := 49
  interfaces := #[2, 3, 4, 5, 6]
  cf := some (fileOf pool7 10 #[.nestMembers #[1103]] #[{ accessFlags := 1, nameIndex := 5, descriptorIndex := 6, attributes := #[] }, { accessFlags := 1, nameIndex := 5, descriptorIndex := 1010, attributes := #[] }, { accessFlags := 1, nameIndex := 507, descriptorIndex := 334, attributes := #[] }, { accessFlags := 1, nameIndex := 497, descriptorIndex := 427, attributes := #[] }, { accessFlags := 2, nameIndex := 5, descriptorIndex := 29, attributes := #[] }, { accessFlags := 0, nameIndex := 17, descriptorIndex := 337, attributes := #[] }, { accessFlags := 0, nameIndex := 494, descriptorIndex := 142, attributes := #[] }, { accessFlags := 8, nameIndex := 501, descriptorIndex := 391, attributes := #[] }] 49 2 #[1106, 1108, 575, 1110, 1112] #[{ accessFlags := 18, nameIndex := 13, descriptorIndex := 14, attributes := #[] }, { accessFlags := 18, nameIndex := 17, descriptorIndex := 18, attributes := #[] }, { accessFlags := 2, nameIndex := 21, descriptorIndex := 22, attributes := #[] }, { accessFlags := 2, nameIndex := 25, descriptorIndex := 26, attributes := #[] }, { accessFlags := 26, nameIndex := 1116, descriptorIndex := 1117, attributes := #[] }, { accessFlags := 24, nameIndex := 40, descriptorIndex := 26, attributes := #[] }, { accessFlags := 26, nameIndex := 1101, descriptorIndex := 1102, attributes := #[] }, { accessFlags := 26, nameIndex := 1121, descriptorIndex := 1122, attributes := #[] }, { accessFlags := 25, nameIndex := 599, descriptorIndex := 600, attributes := #[] }, { accessFlags := 24, nameIndex := 1125, descriptorIndex := 18, attributes := #[] }, { accessFlags := 24, nameIndex := 1127, descriptorIndex := 18, attributes := #[] }])
  fields := #[{ name := "value", type := (.array .byte), accessFlags := 18, slot := 0, constantValue := 0 }, { name := "coder", type := .byte, accessFlags := 18, slot := 1, constantValue := 0 }, { name := "hash", type := .int, accessFlags := 2, slot := 2, constantValue := 0 }, { name := "hashIsZero", type := .boolean, accessFlags := 2, slot := 3, constantValue := 0 }, { name := "serialVersionUID", type := .long, accessFlags := 26, slot := 0, constantValue := 0 }, { name := "COMPACT_STRINGS", type := .boolean, accessFlags := 24, slot := 1, constantValue := 0 }, { name := "serialPersistentFields", type := (.array (.object "java/io/ObjectStreamField")), accessFlags := 26, slot := 2, constantValue := 0 }, { name := "REPL", type := .char, accessFlags := 26, slot := 3, constantValue := 0 }, { name := "CASE_INSENSITIVE_ORDER", type := (.object "java/util/Comparator"), accessFlags := 25, slot := 4, constantValue := 0 }, { name := "LATIN1", type := .byte, accessFlags := 24, slot := 5, constantValue := 0 }, { name := "UTF16", type := .byte, accessFlags := 24, slot := 6, constantValue := 0 }]
  methods := #[k7m0, k7m1, k7m2, k7m3, k7m4, k7m5, k7m6, k7m7]
  instanceTypes := #[(.array .byte), .byte, .int, .boolean]
  staticTypes := #[.long, .boolean, (.array (.object "java/io/ObjectStreamField")), .char, (.object "java/util/Comparator"), .byte, .byte]
  resolved := Array.replicate 1451 none
  statics := some 0 }

def pool8 : Array CpInfo := pool [(6, .class_ 8), (1, u "java/lang/Object"), (0, u "<init>"), (0, u "()V"), (1, .class_ 14), (1, u "java/lang/StringUTF16"), (31, u "$assertionsDisabled"), (0, u "Z"), (13, u "HI_BYTE_SHIFT"), (0, u "I"), (2, u "LO_BYTE_SHIFT"), (49, .methodref 12 116), (0, .nameAndType 117 118), (0, u "compress"), (0, u "([CI[BII)I"), (3, u "([CII)[B"), (138, u "coderFromArrayLen"), (0, u "([BI)B"), (106, .class_ 371), (1, u "java/lang/StringUTF16$LinesSpliterator"), (58, u "MAX_LENGTH"), (196, .class_ 628), (0, u "java/lang/StringUTF16$CodePointsSpliterator"), (0, .class_ 630), (0, u "java/lang/StringUTF16$CharsSpliterator")] 4

def k8m0 : Method := { name := "<init>", desc := "()V", sig := { parameters := [], returnType := none }, accessFlags := 0, code := none }
def k8c1 : Code := { maxStack := 2, maxLocals := 2, code := jdk_52_method_15_code, exceptionTable := #[], attributes := #[] }
def k8m1 : Method := { name := "coderFromArrayLen", desc := "([BI)B", sig := { parameters := [(.array .byte), .int], returnType := some .byte }, accessFlags := 8, code := some k8c1 }
def k8c2 : Code := { maxStack := 5, maxLocals := 6, code := jdk_52_method_16_code, exceptionTable := #[], attributes := #[] }
def k8m2 : Method := { name := "compress", desc := "([CII)[B", sig := { parameters := [(.array .char), .int, .int], returnType := some (.array .byte) }, accessFlags := 9, code := some k8c2 }
def k8c3 : Code := { maxStack := 3, maxLocals := 7, code := jdk_52_method_21_code, exceptionTable := #[], attributes := #[] }
def k8m3 : Method := { name := "compress", desc := "([CI[BII)I", sig := { parameters := [(.array .char), .int, (.array .byte), .int, .int], returnType := some .int }, accessFlags := 9, code := some k8c3 }
/-- java/lang/StringUTF16 -/
def k8 : Class := { plain "java/lang/StringUTF16" (some 0) with
  accessFlags := 48
  interfaces := #[]
  cf := some (fileOf pool8 12 #[.nestMembers #[627, 629, 369]] #[{ accessFlags := 0, nameIndex := 9, descriptorIndex := 10, attributes := #[] }, { accessFlags := 8, nameIndex := 261, descriptorIndex := 262, attributes := #[] }, { accessFlags := 9, nameIndex := 117, descriptorIndex := 122, attributes := #[] }, { accessFlags := 9, nameIndex := 117, descriptorIndex := 118, attributes := #[] }] 48 6 #[] #[{ accessFlags := 26, nameIndex := 61, descriptorIndex := 62, attributes := #[] }, { accessFlags := 26, nameIndex := 65, descriptorIndex := 62, attributes := #[] }, { accessFlags := 24, nameIndex := 430, descriptorIndex := 62, attributes := #[] }, { accessFlags := 4120, nameIndex := 46, descriptorIndex := 47, attributes := #[] }])
  fields := #[{ name := "HI_BYTE_SHIFT", type := .int, accessFlags := 26, slot := 0, constantValue := 0 }, { name := "LO_BYTE_SHIFT", type := .int, accessFlags := 26, slot := 1, constantValue := 0 }, { name := "MAX_LENGTH", type := .int, accessFlags := 24, slot := 2, constantValue := 0 }, { name := "$assertionsDisabled", type := .boolean, accessFlags := 4120, slot := 3, constantValue := 0 }]
  methods := #[k8m0, k8m1, k8m2, k8m3]
  instanceTypes := #[]
  staticTypes := #[.int, .int, .int, .boolean]
  resolved := Array.replicate 635 none
  statics := none }

def pool9 : Array CpInfo := pool [(2, .class_ 4), (1, u "java/lang/Object"), (3, .class_ 10), (1, u "com/example/cited_experts/citedexperts/EmailAddress"), (0, u "address"), (0, u "Ljava/lang/String;"), (7, .nameAndType 21 22), (0, u "length"), (0, u "()I"), (20, u "hostEnd"), (0, u "(Ljava/lang/CharSequence;I)I"), (23, .methodref 8 69), (0, .nameAndType 70 71), (0, u "isAsciiLetterOrDigit"), (0, u "(I)Z"), (2, .interfaceMethodref 75 20), (0, .class_ 76), (0, u "java/lang/CharSequence"), (0, .interfaceMethodref 75 78), (0, .nameAndType 79 80), (0, u "charAt"), (0, u "(I)C"), (0, .methodref 8 82), (0, .nameAndType 83 71), (0, u "isAsciiLetter"), (14, .class_ 99), (0, u "java/lang/Comparable"), (0, u "MAX_LENGTH"), (0, u "I")] 35

def k9c0 : Code := { maxStack := 2, maxLocals := 8, code := prog_10_method_4_code, exceptionTable := #[], attributes := #[] }
def k9m0 : Method := { name := "hostEnd", desc := "(Ljava/lang/CharSequence;I)I", sig := { parameters := [(.object "java/lang/CharSequence"), .int], returnType := some .int }, accessFlags := 8, code := some k9c0 }
def k9c1 : Code := { maxStack := 2, maxLocals := 1, code := prog_10_method_5_code, exceptionTable := #[], attributes := #[] }
def k9m1 : Method := { name := "isAsciiLetter", desc := "(I)Z", sig := { parameters := [.int], returnType := some .boolean }, accessFlags := 10, code := some k9c1 }
def k9c2 : Code := { maxStack := 2, maxLocals := 1, code := prog_10_method_6_code, exceptionTable := #[], attributes := #[] }
def k9m2 : Method := { name := "isAsciiLetterOrDigit", desc := "(I)Z", sig := { parameters := [.int], returnType := some .boolean }, accessFlags := 10, code := some k9c2 }
/-- com/example/cited_experts/citedexperts/EmailAddress -/
def k9 : Class := { plain "com/example/cited_experts/citedexperts/EmailAddress" (some 0) with
  accessFlags := 49
  interfaces := #[3]
  cf := some (fileOf pool9 8 #[] #[{ accessFlags := 8, nameIndex := 43, descriptorIndex := 44, attributes := #[] }, { accessFlags := 10, nameIndex := 83, descriptorIndex := 71, attributes := #[] }, { accessFlags := 10, nameIndex := 70, descriptorIndex := 71, attributes := #[] }] 49 2 #[98] #[{ accessFlags := 25, nameIndex := 100, descriptorIndex := 101, attributes := #[] }, { accessFlags := 18, nameIndex := 11, descriptorIndex := 12, attributes := #[] }])
  fields := #[{ name := "MAX_LENGTH", type := .int, accessFlags := 25, slot := 0, constantValue := 0 }, { name := "address", type := (.object "java/lang/String"), accessFlags := 18, slot := 0, constantValue := 0 }]
  methods := #[k9m0, k9m1, k9m2]
  instanceTypes := #[(.object "java/lang/String")]
  staticTypes := #[.int]
  resolved := Array.replicate 137 none
  statics := none }

def pool10 : Array CpInfo := pool [(1, .class_ 2), (0, u "java/lang/String"), (1, .class_ 6), (1, u "java/lang/Object"), (0, u "<init>"), (0, u "()V"), (0, .methodref 1 10), (0, .nameAndType 11 12), (0, u "checkIndex"), (0, u "(II)V"), (1, .class_ 16), (1, u "java/lang/StringLatin1"), (36, u "([BI)C"), (67, u "$assertionsDisabled"), (0, u "Z"), (98, .class_ 223), (1, u "java/lang/StringLatin1$LinesSpliterator"), (28, u "charAt"), (137, .class_ 391), (0, u "java/lang/StringLatin1$CharsSpliterator")] 3

def k10m0 : Method := { name := "<init>", desc := "()V", sig := { parameters := [], returnType := none }, accessFlags := 0, code := none }
def k10c1 : Code := { maxStack := 2, maxLocals := 2, code := jdk_43_method_2_code, exceptionTable := #[], attributes := #[] }
def k10m1 : Method := { name := "charAt", desc := "([BI)C", sig := { parameters := [(.array .byte), .int], returnType := some .char }, accessFlags := 9, code := some k10c1 }
/-- java/lang/StringLatin1 -/
def k10 : Class := { plain "java/lang/StringLatin1" (some 0) with
  accessFlags := 48
  interfaces := #[]
  cf := some (fileOf pool10 14 #[.nestMembers #[390, 221]] #[{ accessFlags := 0, nameIndex := 7, descriptorIndex := 8, attributes := #[] }, { accessFlags := 9, nameIndex := 252, descriptorIndex := 53, attributes := #[] }] 48 4 #[] #[{ accessFlags := 4120, nameIndex := 121, descriptorIndex := 122, attributes := #[] }])
  fields := #[{ name := "$assertionsDisabled", type := .boolean, accessFlags := 4120, slot := 0, constantValue := 0 }]
  methods := #[k10m0, k10m1]
  instanceTypes := #[]
  staticTypes := #[.boolean]
  resolved := Array.replicate 395 none
  statics := none }

def pool11 : Array CpInfo := pool [(2, .class_ 4), (1, u "java/lang/Object"), (0, u "<init>"), (0, u "()V"), (17, .class_ 26), (1, u "jdk/internal/util/Preconditions"), (6, u "checkIndex"), (21, .class_ 56), (0, u "jdk/internal/util/Preconditions$4"), (57, .class_ 115), (0, u "jdk/internal/util/Preconditions$1"), (7, u "SIOOBE_FORMATTER"), (0, u "Ljava/util/function/BiFunction;"), (0, .class_ 126), (0, u "jdk/internal/util/Preconditions$2"), (3, u "AIOOBE_FORMATTER"), (0, .class_ 132), (0, u "jdk/internal/util/Preconditions$3"), (3, u "IOOBE_FORMATTER"), (41, u "(IILjava/util/function/BiFunction;)I")] 15

def k11m0 : Method := { name := "<init>", desc := "()V", sig := { parameters := [], returnType := none }, accessFlags := 1, code := none }
def k11c1 : Code := { maxStack := 3, maxLocals := 3, code := jdk_41_method_11_code, exceptionTable := #[], attributes := #[] }
def k11m1 : Method := { name := "checkIndex", desc := "(IILjava/util/function/BiFunction;)I", sig := { parameters := [.int, .int, (.object "java/util/function/BiFunction")], returnType := some .int }, accessFlags := 9, code := some k11c1 }
/-- jdk/internal/util/Preconditions -/
def k11 : Class := { plain "jdk/internal/util/Preconditions" (some 0) with
  accessFlags := 33
  interfaces := #[]
  cf := some (fileOf pool11 24 #[.nestMembers #[55, 131, 125, 114]] #[{ accessFlags := 1, nameIndex := 5, descriptorIndex := 6, attributes := #[] }, { accessFlags := 9, nameIndex := 33, descriptorIndex := 178, attributes := #[] }] 33 2 #[] #[{ accessFlags := 25, nameIndex := 123, descriptorIndex := 124, attributes := #[] }, { accessFlags := 25, nameIndex := 130, descriptorIndex := 124, attributes := #[] }, { accessFlags := 25, nameIndex := 136, descriptorIndex := 124, attributes := #[] }])
  fields := #[{ name := "SIOOBE_FORMATTER", type := (.object "java/util/function/BiFunction"), accessFlags := 25, slot := 0, constantValue := 0 }, { name := "AIOOBE_FORMATTER", type := (.object "java/util/function/BiFunction"), accessFlags := 25, slot := 1, constantValue := 0 }, { name := "IOOBE_FORMATTER", type := (.object "java/util/function/BiFunction"), accessFlags := 25, slot := 2, constantValue := 0 }]
  methods := #[k11m0, k11m1]
  instanceTypes := #[]
  staticTypes := #[(.object "java/util/function/BiFunction"), (.object "java/util/function/BiFunction"), (.object "java/util/function/BiFunction")]
  resolved := Array.replicate 194 none
  statics := some 1 }

def pool12 : Array CpInfo := pool [(9, u "<init>"), (6, .class_ 18), (1, u "java/lang/Object"), (0, u "()V"), (1, .class_ 23), (1, u "jdk/internal/util/ArraysSupport"), (0, u "LOG2_ARRAY_LONG_INDEX_SCALE"), (0, u "I"), (2, u "U"), (0, u "Ljdk/internal/misc/Unsafe;"), (8, u "BIG_ENDIAN"), (0, u "Z"), (8, u "LOG2_BYTE_BIT_SIZE"), (4, u "LOG2_ARRAY_INT_INDEX_SCALE"), (54, u "JLA"), (0, u "Ljdk/internal/access/JavaLangAccess;"), (11, u "LOG2_ARRAY_BOOLEAN_INDEX_SCALE"), (9, u "LOG2_ARRAY_BYTE_INDEX_SCALE"), (5, u "LOG2_ARRAY_CHAR_INDEX_SCALE"), (5, u "LOG2_ARRAY_SHORT_INDEX_SCALE"), (18, u "LOG2_ARRAY_FLOAT_INDEX_SCALE"), (24, u "LOG2_ARRAY_DOUBLE_INDEX_SCALE"), (89, u "T_BOOLEAN"), (2, u "T_CHAR"), (1, u "T_FLOAT"), (1, u "T_DOUBLE"), (1, u "T_BYTE"), (1, u "T_SHORT"), (1, u "T_INT"), (1, u "T_LONG"), (1, u "SOFT_MAX_ARRAY_LENGTH")] 83

def k12m0 : Method := { name := "<init>", desc := "()V", sig := { parameters := [], returnType := none }, accessFlags := 2, code := none }
/-- jdk/internal/util/ArraysSupport -/
def k12 : Class := { plain "jdk/internal/util/ArraysSupport" (some 0) with
  accessFlags := 33
  interfaces := #[]
  cf := some (fileOf pool12 21 #[] #[{ accessFlags := 2, nameIndex := 9, descriptorIndex := 19, attributes := #[] }] 33 16 #[] #[{ accessFlags := 24, nameIndex := 28, descriptorIndex := 29, attributes := #[] }, { accessFlags := 26, nameIndex := 38, descriptorIndex := 39, attributes := #[] }, { accessFlags := 25, nameIndex := 121, descriptorIndex := 25, attributes := #[] }, { accessFlags := 25, nameIndex := 131, descriptorIndex := 25, attributes := #[] }, { accessFlags := 25, nameIndex := 137, descriptorIndex := 25, attributes := #[] }, { accessFlags := 25, nameIndex := 143, descriptorIndex := 25, attributes := #[] }, { accessFlags := 25, nameIndex := 53, descriptorIndex := 25, attributes := #[] }, { accessFlags := 25, nameIndex := 24, descriptorIndex := 25, attributes := #[] }, { accessFlags := 25, nameIndex := 162, descriptorIndex := 25, attributes := #[] }, { accessFlags := 25, nameIndex := 187, descriptorIndex := 25, attributes := #[] }, { accessFlags := 26, nameIndex := 48, descriptorIndex := 25, attributes := #[] }, { accessFlags := 25, nameIndex := 277, descriptorIndex := 25, attributes := #[] }, { accessFlags := 25, nameIndex := 280, descriptorIndex := 25, attributes := #[] }, { accessFlags := 25, nameIndex := 282, descriptorIndex := 25, attributes := #[] }, { accessFlags := 25, nameIndex := 284, descriptorIndex := 25, attributes := #[] }, { accessFlags := 25, nameIndex := 286, descriptorIndex := 25, attributes := #[] }, { accessFlags := 25, nameIndex := 288, descriptorIndex := 25, attributes := #[] }, { accessFlags := 25, nameIndex := 290, descriptorIndex := 25, attributes := #[] }, { accessFlags := 25, nameIndex := 292, descriptorIndex := 25, attributes := #[] }, { accessFlags := 26, nameIndex := 108, descriptorIndex := 109, attributes := #[] }, { accessFlags := 25, nameIndex := 294, descriptorIndex := 25, attributes := #[] }])
  fields := #[{ name := "U", type := (.object "jdk/internal/misc/Unsafe"), accessFlags := 24, slot := 0, constantValue := 0 }, { name := "BIG_ENDIAN", type := .boolean, accessFlags := 26, slot := 1, constantValue := 0 }, { name := "LOG2_ARRAY_BOOLEAN_INDEX_SCALE", type := .int, accessFlags := 25, slot := 2, constantValue := 0 }, { name := "LOG2_ARRAY_BYTE_INDEX_SCALE", type := .int, accessFlags := 25, slot := 3, constantValue := 0 }, { name := "LOG2_ARRAY_CHAR_INDEX_SCALE", type := .int, accessFlags := 25, slot := 4, constantValue := 0 }, { name := "LOG2_ARRAY_SHORT_INDEX_SCALE", type := .int, accessFlags := 25, slot := 5, constantValue := 0 }, { name := "LOG2_ARRAY_INT_INDEX_SCALE", type := .int, accessFlags := 25, slot := 6, constantValue := 0 }, { name := "LOG2_ARRAY_LONG_INDEX_SCALE", type := .int, accessFlags := 25, slot := 7, constantValue := 0 }, { name := "LOG2_ARRAY_FLOAT_INDEX_SCALE", type := .int, accessFlags := 25, slot := 8, constantValue := 0 }, { name := "LOG2_ARRAY_DOUBLE_INDEX_SCALE", type := .int, accessFlags := 25, slot := 9, constantValue := 0 }, { name := "LOG2_BYTE_BIT_SIZE", type := .int, accessFlags := 26, slot := 10, constantValue := 0 }, { name := "T_BOOLEAN", type := .int, accessFlags := 25, slot := 11, constantValue := 0 }, { name := "T_CHAR", type := .int, accessFlags := 25, slot := 12, constantValue := 0 }, { name := "T_FLOAT", type := .int, accessFlags := 25, slot := 13, constantValue := 0 }, { name := "T_DOUBLE", type := .int, accessFlags := 25, slot := 14, constantValue := 0 }, { name := "T_BYTE", type := .int, accessFlags := 25, slot := 15, constantValue := 0 }, { name := "T_SHORT", type := .int, accessFlags := 25, slot := 16, constantValue := 0 }, { name := "T_INT", type := .int, accessFlags := 25, slot := 17, constantValue := 0 }, { name := "T_LONG", type := .int, accessFlags := 25, slot := 18, constantValue := 0 }, { name := "JLA", type := (.object "jdk/internal/access/JavaLangAccess"), accessFlags := 26, slot := 19, constantValue := 0 }, { name := "SOFT_MAX_ARRAY_LENGTH", type := .int, accessFlags := 25, slot := 20, constantValue := 0 }]
  methods := #[k12m0]
  instanceTypes := #[]
  staticTypes := #[(.object "jdk/internal/misc/Unsafe"), .boolean, .int, .int, .int, .int, .int, .int, .int, .int, .int, .int, .int, .int, .int, .int, .int, .int, .int, (.object "jdk/internal/access/JavaLangAccess"), .int]
  resolved := Array.replicate 378 none
  statics := none }

def pool13 : Array CpInfo := pool [(1, u "java/lang/Cloneable"), (0, .class_ 1), (0, u "java/lang/Object"), (0, .class_ 3)] 3

/-- java/lang/Cloneable -/
def k13 : Class := { plain "java/lang/Cloneable" (some 0) with
  accessFlags := 1537
  interfaces := #[]
  cf := some (fileOf pool13 2 #[] #[] 1537 4 #[] #[])
  fields := #[]
  methods := #[]
  instanceTypes := #[]
  staticTypes := #[]
  resolved := Array.replicate 8 none
  statics := none }

/-- the primitive byte -/
def k14 : Class := { plain "byte" none with kind := .primitive 'B', accessFlags := 0x411 }
/-- [B -/
def k15 : Class := { plain "[B" (some 0) with kind := .array 14 .byte, interfaces := #[13, 2], accessFlags := 1041 }

/-- the primitive char -/
def k16 : Class := { plain "char" none with kind := .primitive 'C', accessFlags := 0x411 }
/-- [C -/
def k17 : Class := { plain "[C" (some 0) with kind := .array 16 .char, interfaces := #[13, 2], accessFlags := 1041 }

/-- the primitive int -/
def k18 : Class := { plain "int" none with kind := .primitive 'I', accessFlags := 0x411 }
/-- [I -/
def k19 : Class := { plain "[I" (some 0) with kind := .array 18 .int, interfaces := #[13, 2], accessFlags := 1041 }

def heap : Heap := #[{ cls := 7, slots := #[.long 0, .int 1, .null, .int 0, .null, .int 0, .int 0], vm := .statics 7 },
  { cls := 11, slots := #[.null, .null, .null], vm := .statics 11 }]
def classes : Array Class := #[k0, k1, k2, k3, k4, k5, k6, k7, k8, k9, k10, k11, k12, k13, k14, k15, k16, k17, k18, k19]
def interned : List (Array UInt16 × Addr) := []
def slotsUsed : Nat := 10
def theMethod : MethodId := ⟨1, 1⟩
def args0 : Array Value := #[.long 5, .long 7, .int 5, .int 7]
def aboutOver (below : List Frame) : State where
  vm := { classes := classes, interned := interned.toArray }
  heap := heap
  slotsUsed := slotsUsed
  threads := #[{ frames := .invoking theMethod args0 :: below }]
def below0 : List Frame := [.native { method := ⟨0, 0⟩, args := #[] }]
def about1 : State := aboutOver below0
def p0 : Program := .bare "" "" ""
def e0 : Env := launch0.env 0 0 0
theorem w_frames : about1.frames = Frame.invoking theMethod args0 :: below0 := rfl
set_option maxRecDepth 65536 in
theorem w_args : argsFit about1.vm theMethod args0 = true := by decide +kernel
set_option maxRecDepth 65536 in
theorem w_heap : heapFits about1 = true := by decide +kernel
set_option maxRecDepth 65536 in
theorem w_runnable : about1.curStatus? = some .runnable := by decide +kernel
set_option maxRecDepth 65536 in
theorem w_alone : about1.alone = true := by decide +kernel
set_option maxRecDepth 65536 in
theorem w_named : about1.methodNamed? x = some theMethod := by decide +kernel
set_option maxRecDepth 65536 in
theorem w_hears : about1.hears theMethod below0 = true := by decide +kernel
set_option maxRecDepth 65536 in
theorem w_ripe : about1.ripe theMethod args0 below0 = true := by decide +kernel
theorem w_running : about1.status = .running := rfl
set_option maxRecDepth 65536 in
theorem w_room : about1.hasRoom e0.platform room_1 = true :=
  launch0.hasRoom_least _ room_1 (by decide +kernel) (by decide +kernel) (by decide +kernel) (by decide +kernel) (by decide +kernel) (by decide +kernel)
theorem allAtoms_all (ts : List Jvm.Cond) (a : Array Jvm.Value) (st : Jvm.State) : (allAtoms ts).before a st = ts.all (fun c => c.before a st) := by
  induction ts with
  | nil => rfl
  | cons c t ih =>
    show (Jvm.Cond.and c (allAtoms t)).before a st = _
    rw [Jvm.Cond.before_and, ih, List.all_cons]
def words1 : List Jvm.Cond := Jvm.Cond.code x code maxLocals ret :: tables_1
/-- a 'code' word, met by the world's own term for the bytes: nothing is compared byte by byte -/
theorem code_word {y : MethodName} {bytes : ByteArray} {mx : Nat} {rt : Option FieldType} {a : Array Value} {s : State} {m : MethodId} {meth : Method} {c : Code} (h1 : s.methodNamed? y = some m) (h2 : s.vm.method? m = some meth) (h3 : meth.code = some c) (h4 : c.code = bytes)
    (h5 : (c.maxLocals == mx && c.exceptionTable.isEmpty && decide (c.maxStack ≤ mostOperands) && decide (meth.sig.returnType = rt) && !meth.locks && decide (parseMethodDescriptor y.desc = some meth.sig)) = true) : (Jvm.Cond.code y bytes mx rt).before a s = true := by
  simp only [Bool.and_eq_true, beq_iff_eq, Bool.not_eq_true', decide_eq_true_eq] at h5
  obtain ⟨⟨⟨⟨⟨g1, g2⟩, g3⟩, g4⟩, g5⟩, g6⟩ := h5
  simp [Cond.before, Cond.holds, Cond.value, h1, h2, h3, h4, g1, g2, g3, g4, g5, g6]
def isCode : Jvm.Cond → Bool
  | .code _ _ _ _ => true
  | _ => false
theorem all_split {L : List Jvm.Cond} {P : Jvm.Cond → Bool} (h1 : L.all (fun c => isCode c || P c) = true) (h2 : ∀ c ∈ L.filter isCode, P c = true) : L.all P = true := by
  refine List.all_eq_true.mpr fun c hc => ?_
  have h := List.all_eq_true.mp h1 c hc
  rcases Bool.eq_false_or_eq_true (isCode c) with hi | hi
  · exact h2 c (List.mem_filter.mpr ⟨hc, hi⟩)
  · simpa [hi] using h
set_option maxRecDepth 65536 in
theorem w_c0 : (Jvm.Cond.code x code maxLocals ret).before args0 about1 = true := code_word (m := ⟨1, 1⟩) (meth := k1m1) (c := k1c1) (by decide +kernel) rfl rfl rfl (by decide +kernel)
set_option maxRecDepth 65536 in
theorem w_c1 : (Jvm.Cond.code ({ cls := "com/example/cited_experts/citedexperts/EmailAddressHostEndPinLaw", name := "pick", desc := "(II)C" } : Jvm.MethodName) method_3_code (2 : Nat) (Option.some Jvm.ClassFile.FieldType.char)).before args0 about1 = true := code_word (m := ⟨1, 2⟩) (meth := k1m2) (c := k1c2) (by decide +kernel) rfl rfl rfl (by decide +kernel)
set_option maxRecDepth 65536 in
theorem w_c2 : (Jvm.Cond.code ({ cls := "com/example/cited_experts/citedexperts/EmailAddressHostEndPinLaw", name := "slot", desc := "([CCCII)C" } : Jvm.MethodName) method_4_code (6 : Nat) (Option.some Jvm.ClassFile.FieldType.char)).before args0 about1 = true := code_word (m := ⟨1, 3⟩) (meth := k1m3) (c := k1c3) (by decide +kernel) rfl rfl rfl (by decide +kernel)
set_option maxRecDepth 65536 in
theorem w_c3 : (Jvm.Cond.code ({ cls := "java/lang/String", name := "<init>", desc := "([C)V" } : Jvm.MethodName) jdk_42_method_3_code (2 : Nat) (Option.none : Option Jvm.ClassFile.FieldType)).before args0 about1 = true := code_word (m := ⟨7, 1⟩) (meth := k7m1) (c := k7c1) (by decide +kernel) rfl rfl rfl (by decide +kernel)
set_option maxRecDepth 65536 in
theorem w_c4 : (Jvm.Cond.code ({ cls := "java/lang/String", name := "<init>", desc := "([CIILjava/lang/Void;)V" } : Jvm.MethodName) jdk_42_method_149_code (6 : Nat) (Option.none : Option Jvm.ClassFile.FieldType)).before args0 about1 = true := code_word (m := ⟨7, 4⟩) (meth := k7m4) (c := k7c4) (by decide +kernel) rfl rfl rfl (by decide +kernel)
set_option maxRecDepth 65536 in
theorem w_c5 : (Jvm.Cond.code ({ cls := "java/lang/Object", name := "<init>", desc := "()V" } : Jvm.MethodName) object_method_1_code (1 : Nat) (Option.none : Option Jvm.ClassFile.FieldType)).before args0 about1 = true := code_word (m := ⟨0, 0⟩) (meth := k0m0) (c := k0c0) (by decide +kernel) rfl rfl rfl (by decide +kernel)
set_option maxRecDepth 65536 in
theorem w_c6 : (Jvm.Cond.code ({ cls := "java/lang/StringUTF16", name := "compress", desc := "([CII)[B" } : Jvm.MethodName) jdk_52_method_16_code (6 : Nat) (Option.some (Jvm.ClassFile.FieldType.array Jvm.ClassFile.FieldType.byte))).before args0 about1 = true := code_word (m := ⟨8, 2⟩) (meth := k8m2) (c := k8c2) (by decide +kernel) rfl rfl rfl (by decide +kernel)
set_option maxRecDepth 65536 in
theorem w_c7 : (Jvm.Cond.code ({ cls := "java/lang/StringUTF16", name := "compress", desc := "([CI[BII)I" } : Jvm.MethodName) jdk_52_method_21_code (7 : Nat) (Option.some Jvm.ClassFile.FieldType.int)).before args0 about1 = true := code_word (m := ⟨8, 3⟩) (meth := k8m3) (c := k8c3) (by decide +kernel) rfl rfl rfl (by decide +kernel)
set_option maxRecDepth 65536 in
theorem w_c8 : (Jvm.Cond.code ({ cls := "java/lang/StringUTF16", name := "coderFromArrayLen", desc := "([BI)B" } : Jvm.MethodName) jdk_52_method_15_code (2 : Nat) (Option.some Jvm.ClassFile.FieldType.byte)).before args0 about1 = true := code_word (m := ⟨8, 1⟩) (meth := k8m1) (c := k8c1) (by decide +kernel) rfl rfl rfl (by decide +kernel)
set_option maxRecDepth 65536 in
theorem w_c9 : (Jvm.Cond.code ({ cls := "com/example/cited_experts/citedexperts/EmailAddress", name := "hostEnd", desc := "(Ljava/lang/CharSequence;I)I" } : Jvm.MethodName) prog_10_method_4_code (8 : Nat) (Option.some Jvm.ClassFile.FieldType.int)).before args0 about1 = true := code_word (m := ⟨9, 0⟩) (meth := k9m0) (c := k9c0) (by decide +kernel) rfl rfl rfl (by decide +kernel)
set_option maxRecDepth 65536 in
theorem w_c10 : (Jvm.Cond.code ({ cls := "java/lang/String", name := "length", desc := "()I" } : Jvm.MethodName) jdk_42_method_54_code (1 : Nat) (Option.some Jvm.ClassFile.FieldType.int)).before args0 about1 = true := code_word (m := ⟨7, 2⟩) (meth := k7m2) (c := k7c2) (by decide +kernel) rfl rfl rfl (by decide +kernel)
set_option maxRecDepth 65536 in
theorem w_c11 : (Jvm.Cond.code ({ cls := "java/lang/String", name := "coder", desc := "()B" } : Jvm.MethodName) jdk_42_method_152_code (1 : Nat) (Option.some Jvm.ClassFile.FieldType.byte)).before args0 about1 = true := code_word (m := ⟨7, 5⟩) (meth := k7m5) (c := k7c5) (by decide +kernel) rfl rfl rfl (by decide +kernel)
set_option maxRecDepth 65536 in
theorem w_c12 : (Jvm.Cond.code ({ cls := "java/lang/String", name := "charAt", desc := "(I)C" } : Jvm.MethodName) jdk_42_method_56_code (2 : Nat) (Option.some Jvm.ClassFile.FieldType.char)).before args0 about1 = true := code_word (m := ⟨7, 3⟩) (meth := k7m3) (c := k7c3) (by decide +kernel) rfl rfl rfl (by decide +kernel)
set_option maxRecDepth 65536 in
theorem w_c13 : (Jvm.Cond.code ({ cls := "java/lang/String", name := "isLatin1", desc := "()Z" } : Jvm.MethodName) jdk_42_method_154_code (1 : Nat) (Option.some Jvm.ClassFile.FieldType.boolean)).before args0 about1 = true := code_word (m := ⟨7, 6⟩) (meth := k7m6) (c := k7c6) (by decide +kernel) rfl rfl rfl (by decide +kernel)
set_option maxRecDepth 65536 in
theorem w_c14 : (Jvm.Cond.code ({ cls := "java/lang/StringLatin1", name := "charAt", desc := "([BI)C" } : Jvm.MethodName) jdk_43_method_2_code (2 : Nat) (Option.some Jvm.ClassFile.FieldType.char)).before args0 about1 = true := code_word (m := ⟨10, 1⟩) (meth := k10m1) (c := k10c1) (by decide +kernel) rfl rfl rfl (by decide +kernel)
set_option maxRecDepth 65536 in
theorem w_c15 : (Jvm.Cond.code ({ cls := "java/lang/String", name := "checkIndex", desc := "(II)V" } : Jvm.MethodName) jdk_42_method_155_code (2 : Nat) (Option.none : Option Jvm.ClassFile.FieldType)).before args0 about1 = true := code_word (m := ⟨7, 7⟩) (meth := k7m7) (c := k7c7) (by decide +kernel) rfl rfl rfl (by decide +kernel)
set_option maxRecDepth 65536 in
theorem w_c16 : (Jvm.Cond.code ({ cls := "jdk/internal/util/Preconditions", name := "checkIndex", desc := "(IILjava/util/function/BiFunction;)I" } : Jvm.MethodName) jdk_41_method_11_code (3 : Nat) (Option.some Jvm.ClassFile.FieldType.int)).before args0 about1 = true := code_word (m := ⟨11, 1⟩) (meth := k11m1) (c := k11c1) (by decide +kernel) rfl rfl rfl (by decide +kernel)
set_option maxRecDepth 65536 in
theorem w_c17 : (Jvm.Cond.code ({ cls := "com/example/cited_experts/citedexperts/EmailAddressHostEndPinLaw", name := "isL", desc := "(C)Z" } : Jvm.MethodName) method_5_code (1 : Nat) (Option.some Jvm.ClassFile.FieldType.boolean)).before args0 about1 = true := code_word (m := ⟨1, 4⟩) (meth := k1m4) (c := k1c4) (by decide +kernel) rfl rfl rfl (by decide +kernel)
set_option maxRecDepth 65536 in
theorem w_c18 : (Jvm.Cond.code ({ cls := "com/example/cited_experts/citedexperts/EmailAddressHostEndPinLaw", name := "isA", desc := "(C)Z" } : Jvm.MethodName) method_6_code (1 : Nat) (Option.some Jvm.ClassFile.FieldType.boolean)).before args0 about1 = true := code_word (m := ⟨1, 5⟩) (meth := k1m5) (c := k1c5) (by decide +kernel) rfl rfl rfl (by decide +kernel)
set_option maxRecDepth 65536 in
theorem w_c19 : (Jvm.Cond.code ({ cls := "com/example/cited_experts/citedexperts/EmailAddress", name := "isAsciiLetterOrDigit", desc := "(I)Z" } : Jvm.MethodName) prog_10_method_6_code (1 : Nat) (Option.some Jvm.ClassFile.FieldType.boolean)).before args0 about1 = true := code_word (m := ⟨9, 2⟩) (meth := k9m2) (c := k9c2) (by decide +kernel) rfl rfl rfl (by decide +kernel)
set_option maxRecDepth 65536 in
theorem w_c20 : (Jvm.Cond.code ({ cls := "com/example/cited_experts/citedexperts/EmailAddress", name := "isAsciiLetter", desc := "(I)Z" } : Jvm.MethodName) prog_10_method_5_code (1 : Nat) (Option.some Jvm.ClassFile.FieldType.boolean)).before args0 about1 = true := code_word (m := ⟨9, 1⟩) (meth := k9m1) (c := k9c1) (by decide +kernel) rfl rfl rfl (by decide +kernel)
def codes1 : List Jvm.Cond := [Jvm.Cond.code x code maxLocals ret, Jvm.Cond.code ({ cls := "com/example/cited_experts/citedexperts/EmailAddressHostEndPinLaw", name := "pick", desc := "(II)C" } : Jvm.MethodName) method_3_code (2 : Nat) (Option.some Jvm.ClassFile.FieldType.char), Jvm.Cond.code ({ cls := "com/example/cited_experts/citedexperts/EmailAddressHostEndPinLaw", name := "slot", desc := "([CCCII)C" } : Jvm.MethodName) method_4_code (6 : Nat) (Option.some Jvm.ClassFile.FieldType.char), Jvm.Cond.code ({ cls := "java/lang/String", name := "<init>", desc := "([C)V" } : Jvm.MethodName) jdk_42_method_3_code (2 : Nat) (Option.none : Option Jvm.ClassFile.FieldType), Jvm.Cond.code ({ cls := "java/lang/String", name := "<init>", desc := "([CIILjava/lang/Void;)V" } : Jvm.MethodName) jdk_42_method_149_code (6 : Nat) (Option.none : Option Jvm.ClassFile.FieldType), Jvm.Cond.code ({ cls := "java/lang/Object", name := "<init>", desc := "()V" } : Jvm.MethodName) object_method_1_code (1 : Nat) (Option.none : Option Jvm.ClassFile.FieldType), Jvm.Cond.code ({ cls := "java/lang/StringUTF16", name := "compress", desc := "([CII)[B" } : Jvm.MethodName) jdk_52_method_16_code (6 : Nat) (Option.some (Jvm.ClassFile.FieldType.array Jvm.ClassFile.FieldType.byte)), Jvm.Cond.code ({ cls := "java/lang/StringUTF16", name := "compress", desc := "([CI[BII)I" } : Jvm.MethodName) jdk_52_method_21_code (7 : Nat) (Option.some Jvm.ClassFile.FieldType.int), Jvm.Cond.code ({ cls := "java/lang/StringUTF16", name := "coderFromArrayLen", desc := "([BI)B" } : Jvm.MethodName) jdk_52_method_15_code (2 : Nat) (Option.some Jvm.ClassFile.FieldType.byte), Jvm.Cond.code ({ cls := "com/example/cited_experts/citedexperts/EmailAddress", name := "hostEnd", desc := "(Ljava/lang/CharSequence;I)I" } : Jvm.MethodName) prog_10_method_4_code (8 : Nat) (Option.some Jvm.ClassFile.FieldType.int), Jvm.Cond.code ({ cls := "java/lang/String", name := "length", desc := "()I" } : Jvm.MethodName) jdk_42_method_54_code (1 : Nat) (Option.some Jvm.ClassFile.FieldType.int), Jvm.Cond.code ({ cls := "java/lang/String", name := "coder", desc := "()B" } : Jvm.MethodName) jdk_42_method_152_code (1 : Nat) (Option.some Jvm.ClassFile.FieldType.byte), Jvm.Cond.code ({ cls := "java/lang/String", name := "charAt", desc := "(I)C" } : Jvm.MethodName) jdk_42_method_56_code (2 : Nat) (Option.some Jvm.ClassFile.FieldType.char), Jvm.Cond.code ({ cls := "java/lang/String", name := "isLatin1", desc := "()Z" } : Jvm.MethodName) jdk_42_method_154_code (1 : Nat) (Option.some Jvm.ClassFile.FieldType.boolean), Jvm.Cond.code ({ cls := "java/lang/StringLatin1", name := "charAt", desc := "([BI)C" } : Jvm.MethodName) jdk_43_method_2_code (2 : Nat) (Option.some Jvm.ClassFile.FieldType.char), Jvm.Cond.code ({ cls := "java/lang/String", name := "checkIndex", desc := "(II)V" } : Jvm.MethodName) jdk_42_method_155_code (2 : Nat) (Option.none : Option Jvm.ClassFile.FieldType), Jvm.Cond.code ({ cls := "jdk/internal/util/Preconditions", name := "checkIndex", desc := "(IILjava/util/function/BiFunction;)I" } : Jvm.MethodName) jdk_41_method_11_code (3 : Nat) (Option.some Jvm.ClassFile.FieldType.int), Jvm.Cond.code ({ cls := "com/example/cited_experts/citedexperts/EmailAddressHostEndPinLaw", name := "isL", desc := "(C)Z" } : Jvm.MethodName) method_5_code (1 : Nat) (Option.some Jvm.ClassFile.FieldType.boolean), Jvm.Cond.code ({ cls := "com/example/cited_experts/citedexperts/EmailAddressHostEndPinLaw", name := "isA", desc := "(C)Z" } : Jvm.MethodName) method_6_code (1 : Nat) (Option.some Jvm.ClassFile.FieldType.boolean), Jvm.Cond.code ({ cls := "com/example/cited_experts/citedexperts/EmailAddress", name := "isAsciiLetterOrDigit", desc := "(I)Z" } : Jvm.MethodName) prog_10_method_6_code (1 : Nat) (Option.some Jvm.ClassFile.FieldType.boolean), Jvm.Cond.code ({ cls := "com/example/cited_experts/citedexperts/EmailAddress", name := "isAsciiLetter", desc := "(I)Z" } : Jvm.MethodName) prog_10_method_5_code (1 : Nat) (Option.some Jvm.ClassFile.FieldType.boolean)]
set_option maxRecDepth 65536 in
theorem codes_eq : words1.filter isCode = codes1 := rfl
theorem w_codes : ∀ c ∈ words1.filter isCode, c.before args0 about1 = true := by
  rw [codes_eq]
  intro c hc
  simp only [codes1, List.mem_cons, List.not_mem_nil, or_false] at hc
  rcases hc with rfl | rfl | rfl | rfl | rfl | rfl | rfl | rfl | rfl | rfl | rfl | rfl | rfl | rfl | rfl | rfl | rfl | rfl | rfl | rfl | rfl
  · exact w_c0
  · exact w_c1
  · exact w_c2
  · exact w_c3
  · exact w_c4
  · exact w_c5
  · exact w_c6
  · exact w_c7
  · exact w_c8
  · exact w_c9
  · exact w_c10
  · exact w_c11
  · exact w_c12
  · exact w_c13
  · exact w_c14
  · exact w_c15
  · exact w_c16
  · exact w_c17
  · exact w_c18
  · exact w_c19
  · exact w_c20
set_option maxRecDepth 65536 in
theorem w_t1 : (words1.take 24).all (fun c => isCode c || c.before args0 about1) = true := by decide +kernel
set_option maxRecDepth 65536 in
theorem w_t2 : ((words1.drop 24).take 24).all (fun c => isCode c || c.before args0 about1) = true := by decide +kernel
set_option maxRecDepth 65536 in
theorem w_t3 : (((words1.drop 24).drop 24).take 24).all (fun c => isCode c || c.before args0 about1) = true := by decide +kernel
set_option maxRecDepth 65536 in
theorem w_t4 : (((words1.drop 24).drop 24).drop 24).all (fun c => isCode c || c.before args0 about1) = true := by decide +kernel
theorem w_tables : (allAtoms (Jvm.Cond.code x code maxLocals ret :: tables_1)).before args0 about1 = true := by
  rw [allAtoms_all]
  show words1.all (fun c => c.before args0 about1) = true
  refine all_split ?_ w_codes
  rw [← List.take_append_drop 24 words1, List.all_append, w_t1, ← List.take_append_drop 24 (words1.drop 24), List.all_append, w_t2, ← List.take_append_drop 24 ((words1.drop 24).drop 24), List.all_append, w_t3, w_t4]
  rfl
set_option maxRecDepth 65536 in
theorem w_rest : rest_1_c.before args0 about1 = true := by decide +kernel
set_option maxRecDepth 65536 in
theorem w_case : (Jvm.Cond.and given_1 narrow_1).before args0 about1 = true := by decide +kernel
theorem w_applies : (headSpec (Jvm.Cond.code x code maxLocals ret :: tables_1) room_1).applies x e0.platform about1 = true :=
  (Spec.applies_iff w_frames).mpr ⟨w_running, w_runnable, w_alone, w_named, w_hears, w_ripe, w_room, w_tables⟩
theorem atStart : AtStart classFile x code maxLocals ret World_1 tables_1 room_1 Calls_1 rest_1 Pre_1 launch0 p0 e0 about1 theMethod args0 below0 :=
  ⟨lists_1, trivial, launch0.admits_env _ _ _, launch0.least_env, fairChoices_fair.cas, fairChoices_fair.clock, w_frames, w_args, w_heap, w_applies, trivial, w_rest, w_case⟩
end start1
theorem witness_1 : WitnessClaimed_1 := ⟨start1.p0, start1.e0, start1.about1, start1.theMethod, start1.args0, start1.below0, start1.atStart⟩
end Jvm.Pilot.@@N@@
