import JvmDerived
import JvmDerived.Pilot.@@N@@Statement
import JvmDerived.Pilot.@@N@@Code
set_option linter.unusedVariables false
set_option linter.unusedSimpArgs false
/- laws to paste: Road.backV, Road.eqW, Road.codOf (cut by pick.py; bodies as the Statement names them) -/
namespace Jvm.Pilot.@@N@@
namespace StrChars
open Jvm Sem ClassFile Op Lib Jvm.Stand Jvm.Free.XT Jvm.Free.ALB Jvm.Free.JM Jvm.Free
open Jvm.Lib.Cold (StaticIs)
/-- a char array whose places are chars -/
def Ch (a : Addr) (A : Cell) (U : State) : Prop := Arr .char a A U ∧ Typed .char A
theorem Ch.mv {a : Addr} {A : Cell} {U U' : State} (h : Ch a A U) (hal : U.vm.Alike U'.vm) (hh : U'.heap = U.heap) : Ch a A U' := ⟨h.1.mv hal hh, h.2⟩
theorem Ch.keep {a : Addr} {A : Cell} {U U' : State} (h : Ch a A U) (hal : U.vm.Alike U'.vm) (hk : U'.heap[a]? = some A) : Ch a A U' := ⟨h.1.keep hal hk, h.2⟩
/-- what place i of a char[]'s cell holds -/
def cv (A : Cell) (i : Nat) : Int32 := match A.slots[i]? with | some (.int x) => x | _ => 0
theorem Ch.get {a : Addr} {A : Cell} {U : State} (h : Ch a A U) {i : Nat} (hi : i < A.slots.size) : A.slots[i]? = some (.int (cv A i)) := by
  have e := Array.getElem?_eq_getElem hi
  have f := h.2 i _ e
  unfold cv; rw [e]
  generalize A.slots[i] = v at f
  cases v <;> simp [fits] at f ⊢
/-- the byte that i2b leaves of a char -/
def lo8 (x : Int32) : Int32 := x.toInt8.toInt32
theorem fits_lo8 (y : Int32) : fits .byte (.int (lo8 y)) = true := by
  have h1 := y.toInt8.le_toInt
  have h2 := y.toInt8.toInt_lt
  simp only [lo8, fits, Bool.and_eq_true, decide_eq_true_eq, Int32.le_iff_toInt_le, Int8.toInt_toInt32, show (-128 : Int32).toInt = -128 from by decide, show (127 : Int32).toInt = 127 from by decide]
  omega
/-- A' is A but that each place j of lo .. hi - 1 holds f j -/
def Laid (A A' : Cell) (lo hi : Nat) (f : Nat → Value) : Prop := A'.cls = A.cls ∧ A'.vm = A.vm ∧ A'.slots.size = A.slots.size ∧ ∀ i, A'.slots[i]? = if lo ≤ i ∧ i < hi then some (f i) else A.slots[i]?
theorem Laid.zero (A : Cell) (lo : Nat) (f : Nat → Value) : Laid A A lo (lo + 0) f := ⟨rfl, rfl, rfl, fun i => by rw [if_neg (by omega)]⟩
theorem Laid.step {A Ak : Cell} {lo k : Nat} {f : Nat → Value} {v : Value} (h : Laid A Ak lo k f) (hlo : lo ≤ k) (hk : k < Ak.slots.size) (hv : v = f k) : Laid A (Ak.setSlot k v) lo (k + 1) f := by
  refine ⟨h.1, h.2.1, by simpa [Cell.setSlot] using h.2.2.1, fun i => ?_⟩
  by_cases e : k = i
  · subst e; rw [Cell.slots_setSlot_self v hk, if_pos (by omega), hv]
  · rw [Cell.slots_setSlot_ne v e, h.2.2.2 i]
    by_cases q : lo ≤ i ∧ i < k
    · rw [if_pos q, if_pos (by omega)]
    · rw [if_neg q, if_neg (by omega)]
def U16 : String := "java/lang/StringUTF16"
namespace Cmp5
def yN : MethodName := ⟨"java/lang/StringUTF16", "compress", "([CI[BII)I"⟩
abbrev yB : ByteArray := jdk_52_method_21_code
theorem d0 : decode yB 0 = .ok (.iconst 0, 1) := by decide +kernel
theorem d1 : decode yB 1 = .ok (.istore 5, 2) := by decide +kernel
theorem d3 : decode yB 3 = .ok (.iload 5, 2) := by decide +kernel
theorem d5 : decode yB 5 = .ok (.iload 4, 2) := by decide +kernel
theorem d7 : decode yB 7 = .ok (.if_icmp (.ge) 37, 3) := by decide +kernel
theorem d10 : decode yB 10 = .ok (.aload_n 0, 1) := by decide +kernel
theorem d11 : decode yB 11 = .ok (.iload_n 1, 1) := by decide +kernel
theorem d12 : decode yB 12 = .ok (.caload, 1) := by decide +kernel
theorem d13 : decode yB 13 = .ok (.istore 6, 2) := by decide +kernel
theorem d15 : decode yB 15 = .ok (.iload 6, 2) := by decide +kernel
theorem d17 : decode yB 17 = .ok (.sipush 255, 3) := by decide +kernel
theorem d20 : decode yB 20 = .ok (.if_icmp (.le) 6, 3) := by decide +kernel
theorem d26 : decode yB 26 = .ok (.aload_n 2, 1) := by decide +kernel
theorem d27 : decode yB 27 = .ok (.iload_n 3, 1) := by decide +kernel
theorem d28 : decode yB 28 = .ok (.iload 6, 2) := by decide +kernel
theorem d30 : decode yB 30 = .ok (.i2b, 1) := by decide +kernel
theorem d31 : decode yB 31 = .ok (.bastore, 1) := by decide +kernel
theorem d32 : decode yB 32 = .ok (.iinc 1 1, 3) := by decide +kernel
theorem d35 : decode yB 35 = .ok (.iinc 3 1, 3) := by decide +kernel
theorem d38 : decode yB 38 = .ok (.iinc 5 1, 3) := by decide +kernel
theorem d41 : decode yB 41 = .ok (.goto (-38), 3) := by decide +kernel
theorem d44 : decode yB 44 = .ok (.iload 4, 2) := by decide +kernel
theorem d46 : decode yB 46 = .ok (.ireturn, 1) := by decide +kernel
def site : List Cond := []
def tab : Cond := tabOf yN yB 7 (some .int) site
def P (b : Addr) (A : Cell) (d : Addr) (B : Cell) (o q len : Nat) (args : Array Value) (s : State) : Prop := args = #[.ref b, .int (Int32.ofNat o), .ref d, .int (Int32.ofNat q), .int (Int32.ofNat len)] ∧ Ch b A s ∧ Arr .byte d B s ∧ b ≠ d ∧ o + len ≤ A.slots.size ∧ q + len ≤ B.slots.size ∧ ∀ i, i < len → ¬ 255 < cv A (o + i)
def E (b : Addr) (A : Cell) (d : Addr) (B : Cell) (o q len : Nat) (r : Option Value) (s u : State) : Prop := r = some (.int (Int32.ofNat len)) ∧ ∃ B', Put d B' s u ∧ Laid B B' q (q + len) (fun j => Value.int (lo8 (cv A (o + (j - q)))))
/-- no char of the range above 255: len; the places written hold each char's low byte -/
theorem law (l : Launch) (b : Addr) (A : Cell) (d : Addr) (B : Cell) (o q len : Nat) : Law l yN 5 5 0 0 yB 7 (some .int) site (P b A d B o q len) (E b A d B o q len) (copyLocs d q len) 0 0 := by
  refine Law.of_walk (plainFor_of_name (by decide +kernel)) (by decide +kernel) (by decide +kernel) (by decide) (fun _ _ h => by rw [h.1]; rfl) (fun _ U U' hal hh h => ⟨h.1, h.2.1.mv hal hh, h.2.2.1.mv hal hh, h.2.2.2⟩) (fun r U U' V V' h1 hal h2 h => ⟨h.1, h.2.elim fun B' q => ⟨B', q.1.mv h1 h2, q.2⟩⟩) ?_
  intro p e s m args below meth c s₁ X0 hexec hbytes hml hret hlk hnm hown hh0 W hP
  obtain ⟨rfl, hA, hB, hne, l1, l2, hp⟩ := hP
  have c1 : Steps p.tables e below (s₁.setTop (entryFrame m #[.ref b, .int (Int32.ofNat o), .ref d, .int (Int32.ofNat q), .int (Int32.ofNat len)] 7)) (s₁.setTop (mkF m 0 #[.val (.ref b), .val (.int (Int32.ofNat o)), .val (.ref d), .val (.int (Int32.ofNat q)), .val (.int (Int32.ofNat len)), .unset, .unset] [])) := entry rfl
  have hA0 := hA.1.mv X0.warmed.alike hh0
  have hB0 := hB.mv X0.warmed.alike hh0
  have a31 := hA.1.2.2.2
  have c2 : Steps p.tables e below (s₁.setTop (entryFrame m #[.ref b, .int (Int32.ofNat o), .ref d, .int (Int32.ofNat q), .int (Int32.ofNat len)] 7)) (s₁.setTop (mkF m 3 #[.val (.ref b), .val (.int (Int32.ofNat o)), .val (.ref d), .val (.int (Int32.ofNat q)), .val (.int (Int32.ofNat len)), .val (.int 0), .unset] [])) := c1.trans (by
    refine iconstV X0.here hexec rfl 0 (hb hbytes d0) (by decide) ?_
    refine XS.istore X0.here hexec rfl (hb hbytes d1) rfl rfl ?_
    exact Steps.refl _)
  have loop : ∀ (r i : Nat), i + r = len → ∀ (z : Slot), (z = .unset ∨ ∃ w, z = .val w ∧ w.category = 1) → ∀ (Tl : State) (Bk : Cell), Stand p l e { frames := 0, locals := 0, cells := 0, slots := 0 } s m #[.ref b, .int (Int32.ofNat o), .ref d, .int (Int32.ofNat q), .int (Int32.ofNat len)] below meth c Tl ([] ++ copyLocs d q i) 0 0 → Put d Bk s₁ Tl → Laid B Bk q (q + i) (fun j => Value.int (lo8 (cv A (o + (j - q))))) →
      Steps p.tables e below (s₁.setTop (entryFrame m #[.ref b, .int (Int32.ofNat o), .ref d, .int (Int32.ofNat q), .int (Int32.ofNat len)] 7)) (Tl.setTop (mkF m 3 #[.val (.ref b), .val (.int (Int32.ofNat (o + i))), .val (.ref d), .val (.int (Int32.ofNat (q + i))), .val (.int (Int32.ofNat len)), .val (.int (Int32.ofNat i)), z] [])) → ∃ (T' : State) (B' : Cell) (z' : Slot), Stand p l e { frames := 0, locals := 0, cells := 0, slots := 0 } s m #[.ref b, .int (Int32.ofNat o), .ref d, .int (Int32.ofNat q), .int (Int32.ofNat len)] below meth c T' ([] ++ copyLocs d q len) 0 0 ∧ Put d B' s₁ T' ∧ Laid B B' q (q + len) (fun j => Value.int (lo8 (cv A (o + (j - q))))) ∧
      Steps p.tables e below (s₁.setTop (entryFrame m #[.ref b, .int (Int32.ofNat o), .ref d, .int (Int32.ofNat q), .int (Int32.ofNat len)] 7)) (T'.setTop (mkF m 3 #[.val (.ref b), .val (.int (Int32.ofNat (o + len))), .val (.ref d), .val (.int (Int32.ofNat (q + len))), .val (.int (Int32.ofNat len)), .val (.int (Int32.ofNat len)), z'] [])) := by
    intro r
    induction r with
    | zero =>
      intro i hi z hz Tl Bk Xl pl fl cl
      have hil : i = len := by omega
      rw [hil] at Xl fl cl
      exact ⟨Tl, Bk, z, Xl, pl, fl, cl⟩
    | succ r ih =>
      intro i hi z hz Tl Bk Xl pl fl cl
      have all := X0.warmed.alike.symm.trans Xl.warmed.alike
      have hAl := hA0.keep all (pl.other hne hA0.1)
      have hBk := hB0.like all pl.1 fl.1 fl.2.1 fl.2.2.1
      have hlt : q + i < Bk.slots.size := by rw [fl.2.2.1]; omega
      have c3 : Steps p.tables e below (s₁.setTop (entryFrame m #[.ref b, .int (Int32.ofNat o), .ref d, .int (Int32.ofNat q), .int (Int32.ofNat len)] 7)) (Tl.setTop (mkF m 12 #[.val (.ref b), .val (.int (Int32.ofNat (o + i))), .val (.ref d), .val (.int (Int32.ofNat (q + i))), .val (.int (Int32.ofNat len)), .val (.int (Int32.ofNat i)), z] [.int (Int32.ofNat (o + i)), .ref b])) := cl.trans (by
        refine XS.iload Xl.here hexec rfl (hb hbytes d3) rfl ?_
        refine XS.iload Xl.here hexec rfl (hb hbytes d5) rfl ?_
        refine XS.icmpNo Xl.here hexec rfl (hb hbytes d7) rfl (ii_ge_f (lt32 (by omega) (by omega))) ?_
        refine XS.aloadN Xl.here hexec rfl (hb hbytes d10) rfl rfl ?_
        refine XS.iloadN Xl.here hexec rfl (hb hbytes d11) rfl ?_
        exact Steps.refl _)
      have c4 : Steps p.tables e below (s₁.setTop (entryFrame m #[.ref b, .int (Int32.ofNat o), .ref d, .int (Int32.ofNat q), .int (Int32.ofNat len)] 7)) (Tl.setTop (mkF m 13 #[.val (.ref b), .val (.int (Int32.ofNat (o + i))), .val (.ref d), .val (.int (Int32.ofNat (q + i))), .val (.int (Int32.ofNat len)), .val (.int (Int32.ofNat i)), z] [.int (cv A (o + i))])) := c3.trans (by
        refine Xl.aget hexec hAl rfl (hA.get (i := o + i) (by omega)) rfl rfl (hb hbytes d12) ?_
        exact Steps.refl _)
      have c5 : Steps p.tables e below (s₁.setTop (entryFrame m #[.ref b, .int (Int32.ofNat o), .ref d, .int (Int32.ofNat q), .int (Int32.ofNat len)] 7)) (Tl.setTop (mkF m 15 #[.val (.ref b), .val (.int (Int32.ofNat (o + i))), .val (.ref d), .val (.int (Int32.ofNat (q + i))), .val (.int (Int32.ofNat len)), .val (.int (Int32.ofNat i)), .val (.int (cv A (o + i)))] [])) := c4.trans (by
        refine XS.istoreS Xl.here hexec rfl (hb hbytes d13) rfl rfl hz ?_
        exact Steps.refl _)
      have c6 : Steps p.tables e below (s₁.setTop (entryFrame m #[.ref b, .int (Int32.ofNat o), .ref d, .int (Int32.ofNat q), .int (Int32.ofNat len)] 7)) (Tl.setTop (mkF m 31 #[.val (.ref b), .val (.int (Int32.ofNat (o + i))), .val (.ref d), .val (.int (Int32.ofNat (q + i))), .val (.int (Int32.ofNat len)), .val (.int (Int32.ofNat i)), .val (.int (cv A (o + i)))] [.int (lo8 (cv A (o + i))), .int (Int32.ofNat (q + i)), .ref d])) := c5.trans (by
        refine XS.iload Xl.here hexec rfl (hb hbytes d15) rfl ?_
        refine sipushV Xl.here hexec rfl 255 (hb hbytes d17) (by decide) ?_
        refine XS.icmpYes Xl.here hexec rfl (pc0 := 20) rfl (hb hbytes d20) rfl (ii_le_t (hp i (by omega))) (by decide) rfl ?_
        refine XS.aloadN Xl.here hexec rfl (hb hbytes d26) rfl rfl ?_
        refine XS.iloadN Xl.here hexec rfl (hb hbytes d27) rfl ?_
        refine XS.iload Xl.here hexec rfl (hb hbytes d28) rfl ?_
        refine i2b Xl.here hexec rfl (hb hbytes d30) rfl ?_
        exact Steps.refl _)
      obtain ⟨T7, X7, p7, st7⟩ := Xl.aput hexec hBk rfl hlt rfl (fits_lo8 (cv A (o + i))) (g := (mkF m 31 #[.val (.ref b), .val (.int (Int32.ofNat (o + i))), .val (.ref d), .val (.int (Int32.ofNat (q + i))), .val (.int (Int32.ofNat len)), .val (.int (Int32.ofNat i)), .val (.int (cv A (o + i)))] [.int (lo8 (cv A (o + i))), .int (Int32.ofNat (q + i)), .ref d])) rfl (rest := []) rfl (hb hbytes d31)
      have c8 : Steps p.tables e below (s₁.setTop (entryFrame m #[.ref b, .int (Int32.ofNat o), .ref d, .int (Int32.ofNat q), .int (Int32.ofNat len)] 7)) (T7.setTop (mkF m 32 #[.val (.ref b), .val (.int (Int32.ofNat (o + i))), .val (.ref d), .val (.int (Int32.ofNat (q + i))), .val (.int (Int32.ofNat len)), .val (.int (Int32.ofNat i)), .val (.int (cv A (o + i)))] [])) := c6.trans (st7 _ (Steps.refl _))
      have c9 : Steps p.tables e below (s₁.setTop (entryFrame m #[.ref b, .int (Int32.ofNat o), .ref d, .int (Int32.ofNat q), .int (Int32.ofNat len)] 7)) (T7.setTop (mkF m 3 #[.val (.ref b), .val (.int (Int32.ofNat (o + i) + 1)), .val (.ref d), .val (.int (Int32.ofNat (q + i) + 1)), .val (.int (Int32.ofNat len)), .val (.int (Int32.ofNat i + 1)), .val (.int (cv A (o + i)))] [])) := c8.trans (by
        refine iincV X7.here hexec rfl 1 (hb hbytes d32) (by decide) rfl rfl ?_
        refine iincV X7.here hexec rfl 1 (hb hbytes d35) (by decide) rfl rfl ?_
        refine iincV X7.here hexec rfl 1 (hb hbytes d38) (by decide) rfl rfl ?_
        refine XS.goto X7.here hexec rfl (pc0 := 41) rfl (hb hbytes d41) (by decide) rfl ?_
        exact Steps.refl _)
      have c10 : Steps p.tables e below (s₁.setTop (entryFrame m #[.ref b, .int (Int32.ofNat o), .ref d, .int (Int32.ofNat q), .int (Int32.ofNat len)] 7)) (T7.setTop (mkF m 3 #[.val (.ref b), .val (.int (Int32.ofNat (o + (i + 1)))), .val (.ref d), .val (.int (Int32.ofNat (q + (i + 1)))), .val (.int (Int32.ofNat len)), .val (.int (Int32.ofNat (i + 1))), .val (.int (cv A (o + i)))] [])) := by
        have := c9
        rw [succ32, succ32, succ32] at this
        exact this
      exact ih (i + 1) (by omega) _ (Or.inr ⟨_, rfl, rfl⟩) T7 _ (by rw [copyLocs_step, ← List.append_assoc]; exact X7) (pl.trans p7) (fl.step (by omega) hlt (by simp)) c10
  obtain ⟨T9, B9, z9, X9, p9, f9, g9⟩ := loop len 0 (by omega) .unset (Or.inl rfl) s₁ B (by simpa [copyLocs] using X0) ⟨hB0.1, fun _ _ => rfl, rfl⟩ (Laid.zero _ _ _) c2
  have c11 : Steps p.tables e below (s₁.setTop (entryFrame m #[.ref b, .int (Int32.ofNat o), .ref d, .int (Int32.ofNat q), .int (Int32.ofNat len)] 7)) (T9.setTop (mkF m 46 #[.val (.ref b), .val (.int (Int32.ofNat (o + len))), .val (.ref d), .val (.int (Int32.ofNat (q + len))), .val (.int (Int32.ofNat len)), .val (.int (Int32.ofNat len)), z9] [.int (Int32.ofNat len)])) := g9.trans (by
    refine XS.iload X9.here hexec rfl (hb hbytes d3) rfl ?_
    refine XS.iload X9.here hexec rfl (hb hbytes d5) rfl ?_
    refine XS.icmpYes X9.here hexec rfl (pc0 := 7) rfl (hb hbytes d7) rfl (ii_ge_t (nlt32 (by omega) (Nat.le_refl _))) (by decide) rfl ?_
    refine XS.iload X9.here hexec rfl (hb hbytes d44) rfl ?_
    exact Steps.refl _)
  exact ⟨T9, some (.int (Int32.ofNat len)), _, _, _, X9, by simp, rfl, rfl, (fun h => by cases h), ⟨rfl, B9, p9.from hh0, f9⟩, fun fs hl => c11.trans (X9.ireturnOut hexec hret rfl (Or.inl rfl) (hb hbytes d46) hl)⟩
end Cmp5
namespace Cmp3
def yN : MethodName := ⟨"java/lang/StringUTF16", "compress", "([CII)[B"⟩
abbrev yB : ByteArray := jdk_52_method_16_code
theorem d0 : decode yB 0 = .ok (.iload_n 2, 1) := by decide +kernel
theorem d1 : decode yB 1 = .ok (.newarray .byte, 2) := by decide +kernel
theorem d3 : decode yB 3 = .ok (.astore_n 3, 1) := by decide +kernel
theorem d4 : decode yB 4 = .ok (.aload_n 0, 1) := by decide +kernel
theorem d5 : decode yB 5 = .ok (.iload_n 1, 1) := by decide +kernel
theorem d6 : decode yB 6 = .ok (.aload_n 3, 1) := by decide +kernel
theorem d7 : decode yB 7 = .ok (.iconst 0, 1) := by decide +kernel
theorem d8 : decode yB 8 = .ok (.iload_n 2, 1) := by decide +kernel
theorem d9 : decode yB 9 = .ok (.invokestatic 115, 3) := by decide +kernel
theorem d12 : decode yB 12 = .ok (.istore 4, 2) := by decide +kernel
theorem d14 : decode yB 14 = .ok (.iload 4, 2) := by decide +kernel
theorem d16 : decode yB 16 = .ok (.iload_n 2, 1) := by decide +kernel
theorem d17 : decode yB 17 = .ok (.if_icmp (.eq) 40, 3) := by decide +kernel
theorem d57 : decode yB 57 = .ok (.aload_n 3, 1) := by decide +kernel
theorem d58 : decode yB 58 = .ok (.areturn, 1) := by decide +kernel
def site : List Cond := [.arrayClass .byte, Cmp5.tab] ++ staticW U16 115 Cmp5.yN
def tab : Cond := tabOf yN yB 6 (some (.array .byte)) site
def P (b : Addr) (A : Cell) (o len : Nat) (args : Array Value) (s : State) : Prop := args = #[.ref b, .int (Int32.ofNat o), .int (Int32.ofNat len)] ∧ Ch b A s ∧ o + len ≤ A.slots.size ∧ len ≤ 536870912 ∧ ∀ i, i < len → ¬ 255 < cv A (o + i)
def E (b : Addr) (A : Cell) (o len : Nat) (r : Option Value) (s u : State) : Prop := NewArr .byte "[B" len (fun j => .int (lo8 (cv A (o + j)))) r s u ∧ u.heap.size = s.heap.size + 1
/-- no char of the range above 255: a new byte[] of their low bytes -/
theorem law (l : Launch) (b : Addr) (A : Cell) (o len : Nat) : Law l yN 3 3 1 18 yB 6 (some (.array .byte)) site (P b A o len) (E b A o len) [] 1 len := by
  refine Law.of_walk (plainFor_of_name (by decide +kernel)) (by decide +kernel) (by decide +kernel) (by decide) (fun _ _ h => by rw [h.1]; rfl) (fun _ U U' hal hh h => ⟨h.1, h.2.1.mv hal hh, h.2.2⟩) (fun r U U' V V' h1 hal h2 h => ⟨NewArr.mv r U U' V V' h1 hal h2 h.1, by rw [h1, h2]; exact h.2⟩) ?_
  intro p e s m args below meth c s₁ X0 hexec hbytes hml hret hlk hnm hown hh0 W hP
  obtain ⟨rfl, hA, l1, l2, hp⟩ := hP
  have a31 := hA.1.2.2.2
  have c1 : Steps p.tables e below (s₁.setTop (entryFrame m #[.ref b, .int (Int32.ofNat o), .int (Int32.ofNat len)] 6)) (s₁.setTop (mkF m 0 #[.val (.ref b), .val (.int (Int32.ofNat o)), .val (.int (Int32.ofNat len)), .unset, .unset, .unset] [])) := entry rfl
  have c2 : Steps p.tables e below (s₁.setTop (entryFrame m #[.ref b, .int (Int32.ofNat o), .int (Int32.ofNat len)] 6)) (s₁.setTop (mkF m 1 #[.val (.ref b), .val (.int (Int32.ofNat o)), .val (.int (Int32.ofNat len)), .unset, .unset, .unset] [.int (Int32.ofNat len)])) := c1.trans (by
    refine XS.iloadN X0.here hexec rfl (hb hbytes d0) rfl ?_
    exact Steps.refl _)
  obtain ⟨T3, B3, X3, ba3, bs3, bv3, bh3, bf3, st3⟩ := X0.anew hexec (atype := .byte) (wk W (.arrayClass .byte)) rfl (by show len * 1 ≤ _; omega) (by omega) (g := (mkF m 1 #[.val (.ref b), .val (.int (Int32.ofNat o)), .val (.int (Int32.ofNat len)), .unset, .unset, .unset] [.int (Int32.ofNat len)])) rfl (hb hbytes d1) (rest := []) rfl (Nat.le_refl _) (by show 0 + len ≤ len; omega)
  rw [hh0] at ba3 st3
  have kp3 : XT.Kept s T3 := (XT.Kept.of_eq hh0).push bh3
  have hA3 := hA.keep X3.warmed.alike (kp3 _ _ hA.1.1)
  have hne : b ≠ s.heap.size := hA.1.ne
  have c4 : Steps p.tables e below (s₁.setTop (entryFrame m #[.ref b, .int (Int32.ofNat o), .int (Int32.ofNat len)] 6)) (T3.setTop (mkF m 3 #[.val (.ref b), .val (.int (Int32.ofNat o)), .val (.int (Int32.ofNat len)), .unset, .unset, .unset] [.ref s.heap.size])) := c2.trans (st3 _ (Steps.refl _))
  have c5 : Steps p.tables e below (s₁.setTop (entryFrame m #[.ref b, .int (Int32.ofNat o), .int (Int32.ofNat len)] 6)) (T3.setTop (mkF m 9 #[.val (.ref b), .val (.int (Int32.ofNat o)), .val (.int (Int32.ofNat len)), .val (.ref s.heap.size), .unset, .unset] [.int (Int32.ofNat len), .int 0, .ref s.heap.size, .int (Int32.ofNat o), .ref b])) := c4.trans (by
    refine XS.astoreN X3.here hexec rfl (hb hbytes d3) rfl rfl rfl ?_
    refine XS.aloadN X3.here hexec rfl (hb hbytes d4) rfl rfl ?_
    refine XS.iloadN X3.here hexec rfl (hb hbytes d5) rfl ?_
    refine XS.aloadN X3.here hexec rfl (hb hbytes d6) rfl rfl ?_
    refine iconstV X3.here hexec rfl 0 (hb hbytes d7) (by decide) ?_
    refine XS.iloadN X3.here hexec rfl (hb hbytes d8) rfl ?_
    exact Steps.refl _)
  obtain ⟨v6, T6, X6, E6, g6⟩ := X3.callS hexec (Cmp5.law l b A s.heap.size B3 o 0 len) hown (wks W (staticW U16 115 Cmp5.yN)) (wk W Cmp5.tab) (W := 0) (Nat.le_of_ble_eq_true rfl) (Nat.le_of_ble_eq_true rfl) (Nat.le_refl _) (by show 0 + len + 0 ≤ len; omega) (g := (mkF m 9 #[.val (.ref b), .val (.int (Int32.ofNat o)), .val (.int (Int32.ofNat len)), .val (.ref s.heap.size), .unset, .unset] [.int (Int32.ofNat len), .int (Int32.ofNat 0), .ref s.heap.size, .int (Int32.ofNat o), .ref b])) rfl (by rw [hml]; rfl) c5 (argsL := [.ref b, .int (Int32.ofNat o), .ref s.heap.size, .int (Int32.ofNat 0), .int (Int32.ofNat len)]) (rest := []) rfl rfl (by show 2 * 0 + 0 ≤ _; decide) (hb hbytes d9) (⟨rfl, hA3, ba3, hne, l1, by rw [bs3]; simp, hp⟩)
  obtain ⟨rfl, B6, p6, f6⟩ := E6
  have c7 : Steps p.tables e below (s₁.setTop (entryFrame m #[.ref b, .int (Int32.ofNat o), .int (Int32.ofNat len)] 6)) (T6.setTop (mkF m 12 #[.val (.ref b), .val (.int (Int32.ofNat o)), .val (.int (Int32.ofNat len)), .val (.ref s.heap.size), .unset, .unset] [.int (Int32.ofNat len)])) := g6
  have c8 : Steps p.tables e below (s₁.setTop (entryFrame m #[.ref b, .int (Int32.ofNat o), .int (Int32.ofNat len)] 6)) (T6.setTop (mkF m 58 #[.val (.ref b), .val (.int (Int32.ofNat o)), .val (.int (Int32.ofNat len)), .val (.ref s.heap.size), .val (.int (Int32.ofNat len)), .unset] [.ref s.heap.size])) := c7.trans (by
    refine XS.istore X6.here hexec rfl (hb hbytes d12) rfl rfl ?_
    refine XS.iload X6.here hexec rfl (hb hbytes d14) rfl ?_
    refine XS.iloadN X6.here hexec rfl (hb hbytes d16) rfl ?_
    refine XS.icmpYes X6.here hexec rfl (pc0 := 17) rfl (hb hbytes d17) rfl (ii_eq_t rfl) (by decide) rfl ?_
    refine XS.aloadN X6.here hexec rfl (hb hbytes d57) rfl rfl ?_
    exact Steps.refl _)
  have X8 := X6.wide (L' := []) (cells' := 1) (slots' := len) (fun x hx hlt => by
    simp only [List.nil_append, copyLocs, List.mem_map, List.mem_range] at hx
    obtain ⟨i, -, rfl⟩ := hx
    exact absurd hlt (Nat.lt_irrefl _)) (Nat.le_refl _) (by omega)
  exact ⟨T6, some (.ref s.heap.size), _, _, _, X8, rfl, rfl, rfl, (fun h => by cases h), ⟨⟨rfl, B6, ba3.like (X3.warmed.alike.symm.trans X6.warmed.alike) p6.1 f6.1 f6.2.1 f6.2.2.1, f6.2.1.trans bv3, by rw [X6.warmed.alike.findClass, f6.1]; exact bf3, by rw [f6.2.2.1, bs3]; simp, fun j hj => by rw [f6.2.2.2 j, if_pos (by omega)]; rfl, kp3.put p6 (Nat.le_refl _)⟩, by rw [p6.2.2, bh3, hh0]; simp⟩, fun fs hl => c8.trans (X8.areturnOut hexec rfl hret rfl (hb hbytes d58) hl)⟩
end Cmp3
namespace CodL
def yN : MethodName := ⟨"java/lang/StringUTF16", "coderFromArrayLen", "([BI)B"⟩
abbrev yB : ByteArray := jdk_52_method_15_code
theorem d0 : decode yB 0 = .ok (.iload_n 1, 1) := by decide +kernel
theorem d1 : decode yB 1 = .ok (.aload_n 0, 1) := by decide +kernel
theorem d2 : decode yB 2 = .ok (.arraylength, 1) := by decide +kernel
theorem d3 : decode yB 3 = .ok (.isub, 1) := by decide +kernel
theorem d4 : decode yB 4 = .ok (.bipush 31, 2) := by decide +kernel
theorem d6 : decode yB 6 = .ok (.iushr, 1) := by decide +kernel
theorem d7 : decode yB 7 = .ok (.i2b, 1) := by decide +kernel
theorem d8 : decode yB 8 = .ok (.ireturn, 1) := by decide +kernel
def site : List Cond := []
def tab : Cond := tabOf yN yB 2 (some .byte) site
def P (d : Addr) (B : Cell) (args : Array Value) (s : State) : Prop := args = #[.ref d, .int (Int32.ofNat B.slots.size)] ∧ Arr .byte d B s
def E (r : Option Value) (s u : State) : Prop := XT.PureE (some (.int 0)) r s u
/-- an array as long as the number of chars: LATIN1 -/
theorem law (l : Launch) (d : Addr) (B : Cell) : Law l yN 2 2 0 0 yB 2 (some .byte) site (P d B) E [] 0 0 := by
  refine Law.of_walk (plainFor_of_name (by decide +kernel)) (by decide +kernel) (by decide +kernel) (by decide) (fun _ _ h => by rw [h.1]; rfl) (fun _ U U' hal hh h => ⟨h.1, h.2.mv hal hh⟩) (fun r U U' V V' h1 hal h2 h => XT.PureE.mv r U U' V V' h1 hal h2 h) ?_
  intro p e s m args below meth c s₁ X0 hexec hbytes hml hret hlk hnm hown hh0 W hP
  obtain ⟨rfl, hB⟩ := hP
  have hB0 := hB.mv X0.warmed.alike hh0
  have c1 : Steps p.tables e below (s₁.setTop (entryFrame m #[.ref d, .int (Int32.ofNat B.slots.size)] 2)) (s₁.setTop (mkF m 0 #[.val (.ref d), .val (.int (Int32.ofNat B.slots.size))] [])) := entry rfl
  have c2 : Steps p.tables e below (s₁.setTop (entryFrame m #[.ref d, .int (Int32.ofNat B.slots.size)] 2)) (s₁.setTop (mkF m 2 #[.val (.ref d), .val (.int (Int32.ofNat B.slots.size))] [.ref d, .int (Int32.ofNat B.slots.size)])) := c1.trans (by
    refine XS.iloadN X0.here hexec rfl (hb hbytes d0) rfl ?_
    refine XS.aloadN X0.here hexec rfl (hb hbytes d1) rfl rfl ?_
    exact Steps.refl _)
  have c3 : Steps p.tables e below (s₁.setTop (entryFrame m #[.ref d, .int (Int32.ofNat B.slots.size)] 2)) (s₁.setTop (mkF m 8 #[.val (.ref d), .val (.int (Int32.ofNat B.slots.size))] [.int (lo8 (ushr (Int32.ofNat B.slots.size - Int32.ofNat B.slots.size) 31))])) := c2.trans (by
    refine X0.alen hexec hB0 rfl rfl (hb hbytes d2) ?_
    refine XS.isub X0.here hexec rfl (hb hbytes d3) rfl ?_
    refine bipushV X0.here hexec rfl 31 (hb hbytes d4) (by decide) ?_
    refine iushr X0.here hexec rfl (hb hbytes d6) rfl ?_
    refine i2b X0.here hexec rfl (hb hbytes d7) rfl ?_
    exact Steps.refl _)
  have e0 : lo8 (ushr (Int32.ofNat B.slots.size - Int32.ofNat B.slots.size) 31) = 0 := by rw [Int32.sub_self]; decide
  rw [e0] at c3
  exact ⟨s₁, some (.int 0), _, _, _, X0, rfl, rfl, rfl, (fun h => by cases h), ⟨rfl, hh0⟩, fun fs hl => c3.trans (X0.ireturnOut hexec hret rfl (Or.inr (Or.inr (Or.inl rfl))) (hb hbytes d8) hl)⟩
end CodL
/-- the String at a is Latin-1 over a new byte[] (the heap's one new cell): the low bytes of the len chars of A from o on; every cell but a is kept -/
def Got (a : Addr) (D : Cell) (fV fC : Field) (A : Cell) (o len : Nat) (r : Option Value) (s u : State) : Prop := r = none ∧ ∃ D' V : Cell, Blank "java/lang/String" a D' u ∧ Same D D' [fV.slot, fC.slot] ∧ D'.slots[fV.slot]? = some (.ref s.heap.size) ∧ D'.slots[fC.slot]? = some (.int 0) ∧ Arr .byte s.heap.size V u ∧ V.vm = .none ∧ u.vm.findClass "[B" = some V.cls ∧ V.slots.size = len ∧ (∀ j, j < len → V.slots[j]? = some (.int (lo8 (cv A (o + j))))) ∧ (∀ (y : Addr) (c : Cell), y ≠ a → s.heap[y]? = some c → u.heap[y]? = some c) ∧ u.heap.size = s.heap.size + 1
theorem Got.mv {a : Addr} {D A : Cell} {fV fC : Field} {o len : Nat} : ∀ r (U U' V V' : State), U'.heap = U.heap → V.vm.Alike V'.vm → V'.heap = V.heap → Got a D fV fC A o len r U V → Got a D fV fC A o len r U' V' :=
  fun r U U' V V' h1 hal h2 ⟨e0, D', X, a1, a2, a3, a4, a5, a6, a7, a8, a9, a10, a11⟩ => ⟨e0, D', X, a1.mv hal h2, a2, by rw [h1]; exact a3, a4, by rw [h1]; exact a5.mv hal h2, a6, by rw [hal.findClass]; exact a7, a8, a9, by rw [h1, h2]; exact a10, by rw [h1, h2]; exact a11⟩
namespace New4
def yN : MethodName := ⟨"java/lang/String", "<init>", "([CIILjava/lang/Void;)V"⟩
abbrev yB : ByteArray := jdk_42_method_149_code
theorem d0 : decode yB 0 = .ok (.aload_n 0, 1) := by decide +kernel
theorem d1 : decode yB 1 = .ok (.invokespecial 1, 3) := by decide +kernel
theorem d4 : decode yB 4 = .ok (.iload_n 3, 1) := by decide +kernel
theorem d5 : decode yB 5 = .ok (.ifCond (.ne) 22, 3) := by decide +kernel
theorem d27 : decode yB 27 = .ok (.getstatic 38, 3) := by decide +kernel
theorem d30 : decode yB 30 = .ok (.ifCond (.eq) 28, 3) := by decide +kernel
theorem d33 : decode yB 33 = .ok (.aload_n 1, 1) := by decide +kernel
theorem d34 : decode yB 34 = .ok (.iload_n 2, 1) := by decide +kernel
theorem d35 : decode yB 35 = .ok (.iload_n 3, 1) := by decide +kernel
theorem d36 : decode yB 36 = .ok (.invokestatic 177, 3) := by decide +kernel
theorem d39 : decode yB 39 = .ok (.astore 5, 2) := by decide +kernel
theorem d41 : decode yB 41 = .ok (.aload_n 0, 1) := by decide +kernel
theorem d42 : decode yB 42 = .ok (.aload 5, 2) := by decide +kernel
theorem d44 : decode yB 44 = .ok (.iload_n 3, 1) := by decide +kernel
theorem d45 : decode yB 45 = .ok (.invokestatic 47, 3) := by decide +kernel
theorem d48 : decode yB 48 = .ok (.putfield 15, 3) := by decide +kernel
theorem d51 : decode yB 51 = .ok (.aload_n 0, 1) := by decide +kernel
theorem d52 : decode yB 52 = .ok (.aload 5, 2) := by decide +kernel
theorem d54 : decode yB 54 = .ok (.putfield 9, 3) := by decide +kernel
theorem d57 : decode yB 57 = .ok (.return_, 1) := by decide +kernel
def site : List Cond := [.fieldLink "java/lang/String" 38 "java/lang/String" "COMPACT_STRINGS" "Z", Cmp3.tab, CodL.tab, .laysFinal "java/lang/String" "java/lang/String" "value" "[B", .fieldLink "java/lang/String" 9 "java/lang/String" "value" "[B", .laysFinal "java/lang/String" "java/lang/String" "coder" "B", .fieldLink "java/lang/String" 15 "java/lang/String" "coder" "B"] ++ objW "java/lang/String" 1 ++ staticW "java/lang/String" 177 Cmp3.yN ++ staticW "java/lang/String" 47 CodL.yN
def tab : Cond := tabOf yN yB 6 none site
def P (a : Addr) (D : Cell) (fV fC : Field) (b : Addr) (A : Cell) (z : Int32) (o len : Nat) (args : Array Value) (s : State) : Prop := args = #[.ref a, .ref b, .int (Int32.ofNat o), .int (Int32.ofNat len), .null] ∧ Blank "java/lang/String" a D s ∧ Found "java/lang/String" "value" "[B" fV s ∧ Found "java/lang/String" "coder" "B" fC s ∧ Ch b A s ∧ StaticIs s "java/lang/String" "COMPACT_STRINGS" "Z" (.int z) ∧ ¬ z = 0 ∧ 0 < len ∧ o + len ≤ A.slots.size ∧ len ≤ 536870912 ∧ ∀ i, i < len → ¬ 255 < cv A (o + i)
def E (a : Addr) (D : Cell) (fV fC : Field) (A : Cell) (o len : Nat) (r : Option Value) (s u : State) : Prop := Got a D fV fC A o len r s u
/-- len > 0, no char of the range above 255: a Latin-1 String of their low bytes -/
theorem law (l : Launch) (a : Addr) (D : Cell) (fV fC : Field) (b : Addr) (A : Cell) (z : Int32) (o len : Nat) : Law l yN 5 4 2 35 yB 6 none site (P a D fV fC b A z o len) (E a D fV fC A o len) [⟨a, fC.slot⟩, ⟨a, fV.slot⟩] 1 len := by
  refine Law.of_walk (plainFor_of_name (by decide +kernel)) (by decide +kernel) (by decide +kernel) (by decide) (fun _ _ h => by rw [h.1]; rfl) (fun _ U U' hal hh h => ⟨h.1, h.2.1.mv hal hh, h.2.2.1.al hal, h.2.2.2.1.al hal, h.2.2.2.2.1.mv hal hh, h.2.2.2.2.2.1.there hal hh, h.2.2.2.2.2.2⟩) (fun r U U' V V' h1 hal h2 h => Got.mv r U U' V V' h1 hal h2 h) ?_
  intro p e s m args below meth c s₁ X0 hexec hbytes hml hret hlk hnm hown hh0 W hP
  obtain ⟨rfl, hB, f1, f2, hA, s1, hz, l0, l1, l2, hp⟩ := hP
  have a31 := hA.1.2.2.2
  have c1 : Steps p.tables e below (s₁.setTop (entryFrame m #[.ref a, .ref b, .int (Int32.ofNat o), .int (Int32.ofNat len), .null] 6)) (s₁.setTop (mkF m 0 #[.val (.ref a), .val (.ref b), .val (.int (Int32.ofNat o)), .val (.int (Int32.ofNat len)), .val .null, .unset] [])) := entry rfl
  have c2 : Steps p.tables e below (s₁.setTop (entryFrame m #[.ref a, .ref b, .int (Int32.ofNat o), .int (Int32.ofNat len), .null] 6)) (s₁.setTop (mkF m 1 #[.val (.ref a), .val (.ref b), .val (.int (Int32.ofNat o)), .val (.int (Int32.ofNat len)), .val .null, .unset] [.ref a])) := c1.trans (by
    refine XS.aloadN X0.here hexec rfl (hb hbytes d0) rfl rfl ?_
    exact Steps.refl _)
  obtain ⟨T3, X3, q3, st3⟩ := X0.oinit hexec hown (wks W (objW "java/lang/String" 1)) (g := (mkF m 1 #[.val (.ref a), .val (.ref b), .val (.int (Int32.ofNat o)), .val (.int (Int32.ofNat len)), .val .null, .unset] [.ref a])) rfl (by rw [hml]; rfl) (rest := []) rfl (hb hbytes d1) (W := 0) (by show 2 * 0 + 0 ≤ _; decide) (Nat.le_of_ble_eq_true rfl) (Nat.le_of_ble_eq_true rfl)
  have hh3 := q3.trans hh0
  have c4 : Steps p.tables e below (s₁.setTop (entryFrame m #[.ref a, .ref b, .int (Int32.ofNat o), .int (Int32.ofNat len), .null] 6)) (T3.setTop (mkF m 27 #[.val (.ref a), .val (.ref b), .val (.int (Int32.ofNat o)), .val (.int (Int32.ofNat len)), .val .null, .unset] [])) := (c2.trans (st3 _ (Steps.refl _))).trans (by
    refine XS.iloadN X3.here hexec rfl (hb hbytes d4) rfl ?_
    refine XS.ifYes X3.here hexec rfl (pc0 := 5) rfl (hb hbytes d5) rfl (i0_ne_t (nz32 (by omega) l0)) (by decide) rfl ?_
    exact Steps.refl _)
  obtain ⟨T5, X5, q5, st5⟩ := X3.sget hexec hown (wk W (.fieldLink "java/lang/String" 38 "java/lang/String" "COMPACT_STRINGS" "Z")) s1 (fun _ _ h => by rw [hh3]; exact h) (g := (mkF m 27 #[.val (.ref a), .val (.ref b), .val (.int (Int32.ofNat o)), .val (.int (Int32.ofNat len)), .val .null, .unset] [])) rfl (hb hbytes d27)
  have hh5 := q5.trans hh3
  have c6 : Steps p.tables e below (s₁.setTop (entryFrame m #[.ref a, .ref b, .int (Int32.ofNat o), .int (Int32.ofNat len), .null] 6)) (T5.setTop (mkF m 30 #[.val (.ref a), .val (.ref b), .val (.int (Int32.ofNat o)), .val (.int (Int32.ofNat len)), .val .null, .unset] [.int z])) := c4.trans (st5 _ (Steps.refl _))
  have c7 : Steps p.tables e below (s₁.setTop (entryFrame m #[.ref a, .ref b, .int (Int32.ofNat o), .int (Int32.ofNat len), .null] 6)) (T5.setTop (mkF m 36 #[.val (.ref a), .val (.ref b), .val (.int (Int32.ofNat o)), .val (.int (Int32.ofNat len)), .val .null, .unset] [.int (Int32.ofNat len), .int (Int32.ofNat o), .ref b])) := c6.trans (by
    refine XS.ifNo X5.here hexec rfl (hb hbytes d30) rfl (i0_eq_f hz) ?_
    refine XS.aloadN X5.here hexec rfl (hb hbytes d33) rfl rfl ?_
    refine XS.iloadN X5.here hexec rfl (hb hbytes d34) rfl ?_
    refine XS.iloadN X5.here hexec rfl (hb hbytes d35) rfl ?_
    exact Steps.refl _)
  obtain ⟨v8, T8, X8, E8, g8⟩ := X5.callS hexec (Cmp3.law l b A o len) hown (wks W (staticW "java/lang/String" 177 Cmp3.yN)) (wk W Cmp3.tab) (W := 0) (Nat.le_of_ble_eq_true rfl) (Nat.le_of_ble_eq_true rfl) (Nat.le_refl _) (by show 0 + len ≤ len; omega) (g := (mkF m 36 #[.val (.ref a), .val (.ref b), .val (.int (Int32.ofNat o)), .val (.int (Int32.ofNat len)), .val .null, .unset] [.int (Int32.ofNat len), .int (Int32.ofNat o), .ref b])) rfl (by rw [hml]; rfl) c7 (argsL := [.ref b, .int (Int32.ofNat o), .int (Int32.ofNat len)]) (rest := []) rfl rfl (by show 2 * 0 + 0 ≤ _; decide) (hb hbytes d36) (⟨rfl, hA.mv X5.warmed.alike hh5, l1, l2, hp⟩)
  obtain ⟨e8, z8⟩ := E8
  obtain ⟨rfl, N, n1, n2, n3, n4, n5, n6⟩ := NewArr.mv _ T5 s _ _ hh5.symm (Vm.Alike.refl _) rfl e8
  rw [hh5] at z8
  have hB1 := hB.keep X8.warmed.alike (n6 _ _ hB.1)
  have hne : s.heap.size ≠ a := (Nat.ne_of_lt (Array.getElem?_eq_some_iff.mp hB.1).1).symm
  have c9 : Steps p.tables e below (s₁.setTop (entryFrame m #[.ref a, .ref b, .int (Int32.ofNat o), .int (Int32.ofNat len), .null] 6)) (T8.setTop (mkF m 39 #[.val (.ref a), .val (.ref b), .val (.int (Int32.ofNat o)), .val (.int (Int32.ofNat len)), .val .null, .unset] [.ref s.heap.size])) := g8
  have c10 : Steps p.tables e below (s₁.setTop (entryFrame m #[.ref a, .ref b, .int (Int32.ofNat o), .int (Int32.ofNat len), .null] 6)) (T8.setTop (mkF m 45 #[.val (.ref a), .val (.ref b), .val (.int (Int32.ofNat o)), .val (.int (Int32.ofNat len)), .val .null, .val (.ref s.heap.size)] [.int (Int32.ofNat N.slots.size), .ref s.heap.size, .ref a])) := by
    have hc : Steps p.tables e below (s₁.setTop (entryFrame m #[.ref a, .ref b, .int (Int32.ofNat o), .int (Int32.ofNat len), .null] 6)) (T8.setTop (mkF m 45 #[.val (.ref a), .val (.ref b), .val (.int (Int32.ofNat o)), .val (.int (Int32.ofNat len)), .val .null, .val (.ref s.heap.size)] [.int (Int32.ofNat len), .ref s.heap.size, .ref a])) := c9.trans (by
      refine XS.astore X8.here hexec rfl (hb hbytes d39) rfl rfl rfl ?_
      refine XS.aloadN X8.here hexec rfl (hb hbytes d41) rfl rfl ?_
      refine XS.aload X8.here hexec rfl (hb hbytes d42) rfl rfl ?_
      refine XS.iloadN X8.here hexec rfl (hb hbytes d44) rfl ?_
      exact Steps.refl _)
    rw [n4]; exact hc
  obtain ⟨v11, T11, X11, E11, g11⟩ := X8.callS hexec (CodL.law l s.heap.size N) hown (wks W (staticW "java/lang/String" 47 CodL.yN)) (wk W CodL.tab) (W := 1) (Nat.le_of_ble_eq_true rfl) (Nat.le_of_ble_eq_true rfl) (Nat.le_refl _) (by show 0 + len + 0 ≤ len; omega) (g := (mkF m 45 #[.val (.ref a), .val (.ref b), .val (.int (Int32.ofNat o)), .val (.int (Int32.ofNat len)), .val .null, .val (.ref s.heap.size)] [.int (Int32.ofNat N.slots.size), .ref s.heap.size, .ref a])) rfl (by rw [hml]; rfl) c10 (argsL := [.ref s.heap.size, .int (Int32.ofNat N.slots.size)]) (rest := [.ref a]) rfl rfl (by show 2 * 0 + (1 + 0) ≤ _; decide) (hb hbytes d45) (⟨rfl, n1⟩)
  obtain ⟨rfl, q11⟩ := E11
  have hB11 := hB1.mv (X8.warmed.alike.symm.trans X11.warmed.alike) q11
  have c12 : Steps p.tables e below (s₁.setTop (entryFrame m #[.ref a, .ref b, .int (Int32.ofNat o), .int (Int32.ofNat len), .null] 6)) (T11.setTop (mkF m 48 #[.val (.ref a), .val (.ref b), .val (.int (Int32.ofNat o)), .val (.int (Int32.ofNat len)), .val .null, .val (.ref s.heap.size)] [.int 0, .ref a])) := g11
  obtain ⟨T13, X13, p13, bl13, sl13, st13⟩ := X11.finit hexec hown (wk W (.fieldLink "java/lang/String" 15 "java/lang/String" "coder" "B")) (Or.inr ⟨_, (wk W (.laysFinal "java/lang/String" "java/lang/String" "coder" "B"))⟩) (Or.inl ⟨rfl, hnm⟩) f2 (Or.inl rfl) hB11 (t := .byte) (by decide +kernel) rfl (g := (mkF m 48 #[.val (.ref a), .val (.ref b), .val (.int (Int32.ofNat o)), .val (.int (Int32.ofNat len)), .val .null, .val (.ref s.heap.size)] [.int 0, .ref a])) rfl (rest := []) rfl (hb hbytes d48)
  have c14 : Steps p.tables e below (s₁.setTop (entryFrame m #[.ref a, .ref b, .int (Int32.ofNat o), .int (Int32.ofNat len), .null] 6)) (T13.setTop (mkF m 54 #[.val (.ref a), .val (.ref b), .val (.int (Int32.ofNat o)), .val (.int (Int32.ofNat len)), .val .null, .val (.ref s.heap.size)] [.ref s.heap.size, .ref a])) := (c12.trans (st13 _ (Steps.refl _))).trans (by
    refine XS.aloadN X13.here hexec rfl (hb hbytes d51) rfl rfl ?_
    refine XS.aload X13.here hexec rfl (hb hbytes d52) rfl rfl ?_
    exact Steps.refl _)
  obtain ⟨T15, X15, p15, bl15, sl15, st15⟩ := X13.finit hexec hown (wk W (.fieldLink "java/lang/String" 9 "java/lang/String" "value" "[B")) (Or.inr ⟨_, (wk W (.laysFinal "java/lang/String" "java/lang/String" "value" "[B"))⟩) (Or.inl ⟨rfl, hnm⟩) f1 (Or.inl rfl) bl13 (t := (.array .byte)) (by decide +kernel) rfl (g := (mkF m 54 #[.val (.ref a), .val (.ref b), .val (.int (Int32.ofNat o)), .val (.int (Int32.ofNat len)), .val .null, .val (.ref s.heap.size)] [.ref s.heap.size, .ref a])) rfl (rest := []) rfl (hb hbytes d54)
  have c16 : Steps p.tables e below (s₁.setTop (entryFrame m #[.ref a, .ref b, .int (Int32.ofNat o), .int (Int32.ofNat len), .null] 6)) (T15.setTop (mkF m 57 #[.val (.ref a), .val (.ref b), .val (.int (Int32.ofNat o)), .val (.int (Int32.ofNat len)), .val .null, .val (.ref s.heap.size)] [])) := c14.trans (st15 _ (Steps.refl _))
  have ap := apart (Or.inr ⟨_, (wk W (.laysFinal "java/lang/String" "java/lang/String" "value" "[B"))⟩) (Or.inr ⟨_, (wk W (.laysFinal "java/lang/String" "java/lang/String" "coder" "B"))⟩) f1 f2 (t₁ := .array .byte) (t₂ := .byte) (by decide +kernel) (by decide +kernel) (by decide)
  have al := X8.warmed.alike.symm.trans X15.warmed.alike
  have n7 : T11.heap[s.heap.size]? = some N := by rw [q11]; exact n1.1
  exact ⟨T15, none, _, _, _, X15, by simp, rfl, by omega, (fun _ => rfl), ⟨rfl, _, N, bl15, ((Same.refl D _).set _ (by simp)).set _ (by simp), sl15, (Cell.slots_setSlot_ne _ ap).trans sl13, n1.keep al (p15.other hne (p13.other hne n7)), n2, by rw [al.findClass]; exact n3, n4, n5, fun y c h1 h2 => p15.other h1 (p13.other h1 (by rw [q11]; exact n6 y c h2)), by rw [p15.2.2, p13.2.2, q11]; exact z8⟩, fun fs hl => c16.trans (X15.returnOut hexec hret (hb hbytes d57) hl)⟩
end New4
namespace New1
def yN : MethodName := ⟨"java/lang/String", "<init>", "([C)V"⟩
abbrev yB : ByteArray := jdk_42_method_3_code
theorem d0 : decode yB 0 = .ok (.aload_n 0, 1) := by decide +kernel
theorem d1 : decode yB 1 = .ok (.aload_n 1, 1) := by decide +kernel
theorem d2 : decode yB 2 = .ok (.iconst 0, 1) := by decide +kernel
theorem d3 : decode yB 3 = .ok (.aload_n 1, 1) := by decide +kernel
theorem d4 : decode yB 4 = .ok (.arraylength, 1) := by decide +kernel
theorem d5 : decode yB 5 = .ok (.aconst_null, 1) := by decide +kernel
theorem d6 : decode yB 6 = .ok (.invokespecial 27, 3) := by decide +kernel
theorem d9 : decode yB 9 = .ok (.return_, 1) := by decide +kernel
def site : List Cond := [New4.tab] ++ initW "java/lang/String" 27 New4.yN
def tab : Cond := tabOf yN yB 2 none site
def P (a : Addr) (D : Cell) (fV fC : Field) (b : Addr) (A : Cell) (z : Int32) (args : Array Value) (s : State) : Prop := args = #[.ref a, .ref b] ∧ Blank "java/lang/String" a D s ∧ Found "java/lang/String" "value" "[B" fV s ∧ Found "java/lang/String" "coder" "B" fC s ∧ Ch b A s ∧ StaticIs s "java/lang/String" "COMPACT_STRINGS" "Z" (.int z) ∧ ¬ z = 0 ∧ 0 < A.slots.size ∧ A.slots.size ≤ 536870912 ∧ ∀ i, i < A.slots.size → ¬ 255 < cv A i
def E (a : Addr) (D : Cell) (fV fC : Field) (A : Cell) (r : Option Value) (s u : State) : Prop := Got a D fV fC A 0 A.slots.size r s u
/-- new String(chars), not empty, no char above 255: a Latin-1 String of their low bytes -/
theorem law (l : Launch) (a : Addr) (D : Cell) (fV fC : Field) (b : Addr) (A : Cell) (z : Int32) : Law l yN 2 1 3 52 yB 2 none site (P a D fV fC b A z) (E a D fV fC A) [⟨a, fC.slot⟩, ⟨a, fV.slot⟩] 1 A.slots.size := by
  refine Law.of_walk (plainFor_of_name (by decide +kernel)) (by decide +kernel) (by decide +kernel) (by decide) (fun _ _ h => by rw [h.1]; rfl) (fun _ U U' hal hh h => ⟨h.1, h.2.1.mv hal hh, h.2.2.1.al hal, h.2.2.2.1.al hal, h.2.2.2.2.1.mv hal hh, h.2.2.2.2.2.1.there hal hh, h.2.2.2.2.2.2⟩) (fun r U U' V V' h1 hal h2 h => Got.mv r U U' V V' h1 hal h2 h) ?_
  intro p e s m args below meth c s₁ X0 hexec hbytes hml hret hlk hnm hown hh0 W hP
  obtain ⟨rfl, hB, f1, f2, hA, s1, hz, l0, l2, hp⟩ := hP
  have c1 : Steps p.tables e below (s₁.setTop (entryFrame m #[.ref a, .ref b] 2)) (s₁.setTop (mkF m 0 #[.val (.ref a), .val (.ref b)] [])) := entry rfl
  have c2 : Steps p.tables e below (s₁.setTop (entryFrame m #[.ref a, .ref b] 2)) (s₁.setTop (mkF m 6 #[.val (.ref a), .val (.ref b)] [.null, .int (Int32.ofNat A.slots.size), .int 0, .ref b, .ref a])) := c1.trans (by
    refine XS.aloadN X0.here hexec rfl (hb hbytes d0) rfl rfl ?_
    refine XS.aloadN X0.here hexec rfl (hb hbytes d1) rfl rfl ?_
    refine iconstV X0.here hexec rfl 0 (hb hbytes d2) (by decide) ?_
    refine XS.aloadN X0.here hexec rfl (hb hbytes d3) rfl rfl ?_
    refine X0.alen hexec (hA.1.mv X0.warmed.alike hh0) rfl rfl (hb hbytes d4) ?_
    refine XS.aconstNull X0.here hexec rfl (hb hbytes d5) ?_
    exact Steps.refl _)
  obtain ⟨v3, T3, X3, E3, g3⟩ := X0.callN hexec (New4.law l a D fV fC b A z 0 A.slots.size) rfl hown (wks W (initW "java/lang/String" 27 New4.yN)) (W New4.tab (by simp only [site, List.mem_cons, List.mem_append, true_or, or_true])) (W := 0) (Nat.le_of_ble_eq_true rfl) (Nat.le_of_ble_eq_true rfl) (Nat.le_refl _) (by show 0 + A.slots.size ≤ A.slots.size; omega) (g := (mkF m 6 #[.val (.ref a), .val (.ref b)] [.null, .int (Int32.ofNat A.slots.size), .int (Int32.ofNat 0), .ref b, .ref a])) rfl (by rw [hml]; rfl) c2 (argsL := [.ref b, .int (Int32.ofNat 0), .int (Int32.ofNat A.slots.size), .null]) (rest := []) rfl rfl (by show 2 * 0 + 0 ≤ _; decide) (hb hbytes d6) (⟨rfl, hB.mv X0.warmed.alike hh0, f1.al X0.warmed.alike, f2.al X0.warmed.alike, hA.mv X0.warmed.alike hh0, s1.there X0.warmed.alike hh0, hz, l0, by omega, l2, fun i hi => by rw [Nat.zero_add]; exact hp i hi⟩)
  have e0 := Got.mv _ s₁ s _ _ hh0.symm (Vm.Alike.refl _) rfl E3
  obtain rfl := e0.1
  have c4 : Steps p.tables e below (s₁.setTop (entryFrame m #[.ref a, .ref b] 2)) (T3.setTop (mkF m 9 #[.val (.ref a), .val (.ref b)] [])) := g3
  exact ⟨T3, none, _, _, _, X3, by simp, rfl, by omega, (fun _ => rfl), e0, fun fs hl => c4.trans (X3.returnOut hexec hret (hb hbytes d9) hl)⟩
theorem pays {l : Launch} {R : Room} {p : Program} {e : Env} {below : List Frame} {s : State} {sargs : Array Value} {len W : Nat} (a : Addr) (D : Cell) (fV fC : Field) (b : Addr) (A : Cell) (z : Int32) (htab : tab.before sargs s = true) (hfr : 4 ≤ R.frames) (hlo : W + 65 ≤ R.locals) :
    Back l R p e below s sargs yN len W (fun A₁ a₁ => A₁.cells + 1 ≤ R.cells ∧ A₁.slots + A.slots.size ≤ R.slots ∧ P a D fV fC b A z a₁ A₁.U) (fun A₁ _ v₁ B₁ => E a D fV fC A v₁ A₁.U B₁.U ∧ B₁.locs = A₁.locs ++ [⟨a, fC.slot⟩, ⟨a, fV.slot⟩] ∧ B₁.cells = A₁.cells + 1 ∧ B₁.slots = A₁.slots + A.slots.size) :=
  (law l a D fV fC b A z).pays htab hfr (by omega)
end New1
/-- the byte, read back as charAt reads it, is the char -/
theorem lo8_mask {x : Int32} (h0 : ¬ x < 0) (h1 : ¬ 255 < x) : lo8 x &&& 255 = x := by
  have t : ∀ k : Fin 256, lo8 (Int32.ofNat k.val) &&& 255 = Int32.ofNat k.val := by decide +kernel
  rw [Int32.lt_iff_toInt_lt] at h0 h1
  have e0 : (0 : Int32).toInt = 0 := rfl
  have e1 : (255 : Int32).toInt = 255 := rfl
  obtain ⟨k, hk⟩ : ∃ k : Nat, x.toInt = k := ⟨x.toInt.toNat, by omega⟩
  have hx : x = Int32.ofNat k := Int32.toInt_inj.mp (by rw [hk, Int32.toInt_ofNat_small (by omega)])
  rw [hx]
  exact t ⟨k, by omega⟩
end StrChars
namespace StrChars.Road
open Jvm Sem ClassFile Op Lib Jvm.Stand Jvm.Free Jvm.Free.XT
open Jvm.Lib.Cold (StaticIs)
abbrev ST : String := "java/lang/String"
/-- every table word that New1's law asks, flat -/
abbrev words : List Jvm.Cond := [.code New1.yN New1.yB 2 none, .initialized ST, .methodLink ST 27 New4.yN, .instanceMethod New4.yN,
  .code New4.yN New4.yB 6 none, .fieldLink ST 38 ST "COMPACT_STRINGS" "Z", .laysFinal ST ST "value" "[B", .fieldLink ST 9 ST "value" "[B", .laysFinal ST ST "coder" "B", .fieldLink ST 15 ST "coder" "B",
  .methodLink ST 1 Lib.objectInit, .instanceMethod Lib.objectInit, .code Lib.objectInit ⟨#[0xb1]⟩ 1 none, .methodLink ST 177 Cmp3.yN, .static Cmp3.yN, .methodLink ST 47 CodL.yN, .static CodL.yN,
  .code Cmp3.yN Cmp3.yB 6 (some (.array .byte)), .initialized U16, .arrayClass .byte, .methodLink U16 115 Cmp5.yN, .static Cmp5.yN, .code Cmp5.yN Cmp5.yB 7 (some .int), .code CodL.yN CodL.yB 2 (some .byte)]
theorem tab_of {a : Array Value} {s : State} (h : ∀ w ∈ words, w.before a s = true) : New1.tab.before a s = true := by
  have h5 : Cmp5.tab.before a s = true := unparts (wk h (.code Cmp5.yN Cmp5.yB 7 (some .int))) (wks h (.initialized Cmp5.yN.cls :: Cmp5.site))
  have hc : CodL.tab.before a s = true := unparts (wk h (.code CodL.yN CodL.yB 2 (some .byte))) (wks h (.initialized CodL.yN.cls :: CodL.site))
  have q5 : ∀ w ∈ Cmp5.tab :: words, w.before a s = true := fun w hw => (List.mem_cons.mp hw).elim (fun e => e ▸ h5) (h w)
  have h3 : Cmp3.tab.before a s = true := unparts (wk q5 (.code Cmp3.yN Cmp3.yB 6 (some (.array .byte)))) (wks q5 (.initialized Cmp3.yN.cls :: Cmp3.site))
  have q3 : ∀ w ∈ Cmp3.tab :: CodL.tab :: words, w.before a s = true := fun w hw => (List.mem_cons.mp hw).elim (fun e => e ▸ h3) fun hw => (List.mem_cons.mp hw).elim (fun e => e ▸ hc) (h w)
  have h4 : New4.tab.before a s = true := unparts (wk q3 (.code New4.yN New4.yB 6 none)) (wks q3 (.initialized New4.yN.cls :: New4.site))
  have q4 : ∀ w ∈ New4.tab :: words, w.before a s = true := fun w hw => (List.mem_cons.mp hw).elim (fun e => e ▸ h4) (h w)
  exact unparts (wk q4 (.code New1.yN New1.yB 2 none)) (wks q4 (.initialized New1.yN.cls :: New1.site))
/-- the words ride from the start Z to the walk's own state -/
theorem moved {Z s : State} {a0 args : Array Value} (hZ : Z.Warmed39 s.vm) (hw : ∀ d ∈ words, d.before a0 Z = true) : ∀ d ∈ words, d.before args s = true := fun d hd => by
  have q := hw d hd
  have t : ∀ d ∈ words, d = .arrayClass .byte ∨ (d.onTables && d.keepsFace) = true := by decide +kernel
  rcases t d hd with rfl | t
  · exact RoadKit.mvA hZ q
  · exact RoadKit.mv hZ q t
/-- WHAT COMES BACK, over the tables of the start Z: h the heap at the call, h' behind it -/
def Q (Z : State) (x : Addr) (A : Cell) (h : Heap) (v : Option Value) (h' : Heap) (L : List Loc) : Prop := v = none ∧ (∀ y ∈ L, y.base = x) ∧ RoadKit.Keep h h' [x] ∧ h'.size = h.size + 1 ∧ RoadKit.Exa Z h' x ST ∧ RoadKit.Fld Z h' x ST "value" "[B" (.ref h.size) ∧ RoadKit.Fld Z h' x ST "coder" "B" (.int 0) ∧
  (∃ V : Cell, RoadKit.Arr Z h' h.size V .byte ∧ V.vm = .none ∧ Z.vm.findClass "[B" = some V.cls ∧ V.slots.size = A.slots.size ∧ ∀ j, j < A.slots.size → V.slots[j]? = some (.int (lo8 (cv A j)))) ∧
  ∀ (O n d : String) (w : Value), RoadKit.Fld Z h x O n d w → RoadKit.slotOf Z O n d ≠ RoadKit.slotOf Z ST "value" "[B" → RoadKit.slotOf Z O n d ≠ RoadKit.slotOf Z ST "coder" "B" → RoadKit.Fld Z h' x O n d w
/-- **new String(chars) AT A CALL, IN THE ROAD'S FORM**: for specialBack behind newO: x the fresh String, b the char[] with the cell A -/
theorem back {p : Program} {l : Launch} {e : Env} {R : Room} {s : State} {args : Array Value} {below : List Frame} {len W : Nat} {Z : State} {a0 : Array Value} {h : Heap} (hZ : Z.Warmed39 s.vm) (hw : ∀ d ∈ words, d.before a0 Z = true) {kI : Nat} (wi : (Jvm.Cond.instantiable ST kI).before a0 Z = true)
    {x b : Addr} {A : Cell} {z : Int32} {v0 c0 : Value} (E : RoadKit.Exa Z h x ST) (V : RoadKit.Fld Z h x ST "value" "[B" v0) (C : RoadKit.Fld Z h x ST "coder" "B" c0) (K : RoadKit.Arr Z h b A .char) (hty : Typed .char A) (S : RoadKit.Sta Z h ST "COMPACT_STRINGS" "Z" (.int z)) (hz : ¬ z = 0)
    (l0 : 0 < A.slots.size) (l2 : A.slots.size ≤ 536870912) (hp : ∀ i, i < A.slots.size → ¬ 255 < cv A i) (hfr : 4 ≤ R.frames) (hlo : W + 65 ≤ R.locals) :
    Back l R p e below s args New1.yN len W (fun P a => a = #[.ref x, .ref b] ∧ P.U.heap = h ∧ P.cells + 1 ≤ R.cells ∧ P.slots + A.slots.size ≤ R.slots)
      (fun P _ v B => ∃ L, Q Z x A h v B.U.heap L ∧ B.locs = P.locs ++ L ∧ B.cells = P.cells + 1 ∧ B.slots = P.slots + A.slots.size) := by
  intro m meth c P g ig mk a X hg hsize hdg hW hn hp'
  obtain ⟨rfl, rfl, r1, r2⟩ := hp'
  have al : Z.vm.Alike P.U.vm := hZ.alike.trans X.warmed.alike
  obtain ⟨D, cfV, kV, iV, fV, hD, gV, stV, knV, obV, asV, slV⟩ := id V
  obtain ⟨D', cfC, kC, iC, fC, hD', gC, stC, -, -, asC, slC⟩ := id C
  cases hD.symm.trans hD'
  obtain ⟨D2, kD, e1, e2, e3, e4, e5⟩ := id E
  cases hD.symm.trans e1
  obtain ⟨c2, k2, i1, i2, i3, -⟩ := Cond.instantiable_spec wi
  cases e2.symm.trans i1
  cases e3.symm.trans i2
  obtain ⟨kU, u1, u2⟩ := al.2.2 _ _ e3
  have hB : Blank ST x D P.U := ⟨hD, ⟨knV, fun q hq => by rw [hq] at obV; cases obV⟩, by rw [al.findClass]; exact e2, kU, u1, by rw [u2]; exact i3, by rw [u2]; exact e5 i3⟩
  have F1 : Found ST "value" "[B" fV P.U := ⟨SBG.found_only al ⟨cfV, kV, iV, gV⟩, stV⟩
  have F2 : Found ST "coder" "B" fC P.U := ⟨SBG.found_only al ⟨cfC, kC, iC, gC⟩, stC⟩
  have hA : Ch b A P.U := ⟨⟨K.1, State.isArrayOf_alike al K.2.1, K.2.2, by omega⟩, hty⟩
  have hS : StaticIs P.U ST "COMPACT_STRINGS" "Z" (.int z) := by
    obtain ⟨cfS, iS, kS, fS, st, cS, t1, t2, t3, t4, t5, t6, t7⟩ := S
    exact StaticIs.there (s := { Z with heap := P.U.heap }) ⟨cfS, iS, kS, fS, st, cS, t1, t2, t3, t4, t5, (fun q => by rw [q] at t6; cases t6), t7⟩ al rfl
  obtain ⟨v, B, X', ⟨⟨hv, E', V', q1, q2, q3, q4, q5, q6, q7, q8, q9, q10, q11⟩, hl, hc, hs⟩, st⟩ := New1.pays x D fV fC b A z (tab_of (moved hZ hw)) hfr hlo m meth c P g ig mk _ X hg hsize hdg hW hn ⟨r1, r2, rfl, hB, F1, F2, hA, hS, hz, l0, l2, hp⟩
  have al' : Z.vm.Alike B.U.vm := hZ.alike.trans X'.warmed.alike
  have hsz : E'.slots.size = D.slots.size := by
    obtain ⟨-, -, -, kB, w1, w2, w3⟩ := q1
    obtain ⟨kB', y1, y2⟩ := al'.2.2 _ _ e3
    rw [q2.2.1] at w1
    cases w1.symm.trans y1
    rw [w3, e5 i3, y2]
  refine ⟨v, B, X', ⟨_, ⟨hv, ?_, ⟨by omega, fun y cy hy hn' => q10 y cy (by simpa using hn') hy, fun y cy hy => ?_⟩, q11, ⟨E', _, q1.1, by rw [q2.2.1]; exact e2, by rw [q2.2.1]; exact e3, by rw [q2.1]; exact obV, fun _ => by rw [hsz]; exact e5 i3⟩,
    ⟨E', cfV, kV, iV, fV, q1.1, gV, stV, by rw [q2.1]; exact knV, by rw [q2.1]; exact obV, by rw [q2.2.1]; exact asV, q3⟩, ⟨E', cfC, kC, iC, fC, q1.1, gC, stC, by rw [q2.1]; exact knV, by rw [q2.1]; exact obV, by rw [q2.2.1]; exact asC, q4⟩,
    ⟨V', ⟨q5.1, State.isArrayOf_alike al'.symm q5.2.1, q5.2.2.1⟩, q6, by rw [← al'.findClass]; exact q7, q8, fun j hj => by have := q9 j hj; rwa [Nat.zero_add] at this⟩, fun O n d w F n1 n2 => ?_⟩, hl, hc, hs⟩, st⟩
  · intro y hy
    simp only [List.mem_cons, List.not_mem_nil, or_false] at hy
    rcases hy with rfl | rfl <;> rfl
  · by_cases q : y = x
    · subst q
      cases hD.symm.trans hy
      exact ⟨E', q1.1, q2.2.1, q2.1, hsz⟩
    · exact ⟨cy, q10 y cy q hy, rfl, rfl, rfl⟩
  · obtain ⟨D3, cf, k, i, f, g1, g2, g3, g4, g5, g6, g7⟩ := F
    cases hD.symm.trans g1
    simp only [RoadKit.slotOf, g2, gV, gC, Option.map_some, Option.getD_some] at n1 n2
    exact ⟨E', cf, k, i, f, q1.1, g2, g3, by rw [q2.1]; exact g4, by rw [q2.1]; exact g5, by rw [q2.2.1]; exact g6, by rw [q2.2.2 f.slot (by simp [n1, n2])]; exact g7⟩
end StrChars.Road
namespace StrChars.Road
open Jvm Sem ClassFile Op Lib Jvm.Stand Jvm.Free Jvm.Free.XT
/-- WHAT COMES BACK, the byte[] as a list of values -/
def QA (Z : State) (x : Addr) (zn : Int32) (cs : List Int32) (h : Heap) (v : Option Value) (h' : Heap) (L : List Loc) : Prop := v = none ∧ (∀ y ∈ L, y.base = x) ∧ RoadKit.Keep h h' [x] ∧ h'.size = h.size + 1 ∧ RoadKit.Exa Z h' x ST ∧ RoadKit.Fld Z h' x ST "value" "[B" (.ref h.size) ∧ RoadKit.Fld Z h' x ST "coder" "B" (.int 0) ∧
  (∃ kb, Z.vm.findClass "[B" = some kb ∧ RoadKit.Arv Z h' h.size kb .byte zn (cs.map fun c => .int (lo8 c)) (.int 0)) ∧
  ∀ (O n d : String) (w : Value), RoadKit.Fld Z h x O n d w → RoadKit.slotOf Z O n d ≠ RoadKit.slotOf Z ST "value" "[B" → RoadKit.slotOf Z O n d ≠ RoadKit.slotOf Z ST "coder" "B" → RoadKit.Fld Z h' x O n d w
/-- **new String(chars) AT A CALL, THE ARRAYS AS LISTS**: the char[] at b holds cs, not empty, no char above 255 -/
theorem backArv {p : Program} {l : Launch} {e : Env} {R : Room} {s : State} {args : Array Value} {below : List Frame} {len W : Nat} {Z : State} {a0 : Array Value} {h : Heap} (hZ : Z.Warmed39 s.vm) (hw : ∀ d ∈ words, d.before a0 Z = true) {kI : Nat} (wi : (Jvm.Cond.instantiable ST kI).before a0 Z = true)
    {x b : Addr} {k : ClassId} {zn z : Int32} {cs : List Int32} {dv v0 c0 : Value} (E : RoadKit.Exa Z h x ST) (V : RoadKit.Fld Z h x ST "value" "[B" v0) (C : RoadKit.Fld Z h x ST "coder" "B" c0) (K : RoadKit.Arv Z h b k .char zn (cs.map Value.int) dv) (S : RoadKit.Sta Z h ST "COMPACT_STRINGS" "Z" (.int z)) (hz : ¬ z = 0)
    (hlen : zn.toNatClampNeg = cs.length) (h0 : 0 < cs.length) (hbig : cs.length ≤ 536870912) (hall : ∀ c ∈ cs, ¬ 255 < c) (hfr : 4 ≤ R.frames) (hlo : W + 65 ≤ R.locals) :
    Back l R p e below s args New1.yN len W (fun P a => a = #[.ref x, .ref b] ∧ P.U.heap = h ∧ P.cells + 1 ≤ R.cells ∧ P.slots + cs.length ≤ R.slots)
      (fun P _ v B => ∃ L, QA Z x zn cs h v B.U.heap L ∧ B.locs = P.locs ++ L ∧ B.cells = P.cells + 1 ∧ B.slots = P.slots + cs.length) := by
  obtain ⟨A, K1, K2, K3, K4, K5, K6⟩ := K
  have e : A.slots.size = cs.length := K3.trans hlen
  have hat : ∀ (i : Nat) (hi : i < cs.length), A.slots[i]? = some (.int cs[i]) := fun i hi => by rw [K5 i (by omega)]; simp [List.getD_eq_getElem?_getD, hi]
  have hcv : ∀ (i : Nat) (hi : i < cs.length), cv A i = cs[i] := fun i hi => by unfold cv; rw [hat i hi]
  have hty : Typed .char A := fun i v hv => by
    have hi : i < A.slots.size := (Array.getElem?_eq_some_iff.mp hv).1
    have q := K5 i hi
    rw [hv] at q
    rw [Option.some.inj q]
    exact K6 i hi
  refine Back.mono (back hZ hw wi E V C K1 hty S hz (by omega) (by omega) (fun i hi => by rw [hcv i (by omega)]; exact hall _ (List.getElem_mem _)) hfr hlo) (fun P a hp => ⟨hp.1, hp.2.1, hp.2.2.1, by rw [e]; exact hp.2.2.2⟩) (fun P a v B hp hq => ?_)
  obtain ⟨L, ⟨q1, q2, q3, q4, q5, q6, q7, ⟨V', v1, v2, v3, v4, v5⟩, q9⟩, hl, hc, hs⟩ := hq
  refine ⟨L, ⟨q1, q2, q3, q4, q5, q6, q7, ⟨V'.cls, v3, V', v1, rfl, by rw [v4, e, hlen], K4, fun i hi => ?_, fun i hi => ?_⟩, q9⟩, hl, hc, by rw [hs, e]⟩
  · have hi' : i < cs.length := by omega
    rw [v5 i (by omega), hcv i hi']; simp [List.getD_eq_getElem?_getD, hi']
  · have hi' : i < cs.length := by omega
    simp only [List.getD_eq_getElem?_getD, List.getElem?_map, List.getElem?_eq_getElem hi', Option.map_some, Option.getD_some]
    exact fits_lo8 _
end StrChars.Road
namespace StrChars.Road
open Jvm Sem ClassFile Op Lib Jvm.Stand Jvm.Free Jvm.Free.XT
/-- WHAT COMES BACK, in the writer's own shape -/
def QV (Z : State) (x : Addr) (N : Int32) (bs : List Int32) (h : Heap) (n0 : Nat) (v : Option Value) (h' : Heap) (L : List Loc) : Prop := v = none ∧ RoadKit.Fr n0 L ∧ RoadKit.Keep h h' [x] ∧ RoadKit.Exa Z h' x ST ∧ RoadKit.Fld Z h' x ST "coder" "B" (.int 0) ∧
  ∃ (t : Addr) (kb : ClassId), n0 ≤ t ∧ h.size ≤ t ∧ ¬ t = x ∧ RoadKit.Fld Z h' x ST "value" "[B" (.ref t) ∧ RoadKit.Arv Z h' t kb .byte N (bs.map Value.int) (.int 0)
/-- **new String(chars) AT A CALL, FOR THE WRITER**: a char[] of n known ints, each 0 to 255 -/
theorem backV {p : Program} {l : Launch} {e : Env} {R : Room} {s : State} {args : Array Value} {below : List Frame} {len W : Nat} {Z : State} {a0 : Array Value} {h : Heap} (hZ : Z.Warmed39 s.vm) (hw : ∀ d ∈ words, d.before a0 Z = true) {kI : Nat} (wi : (Jvm.Cond.instantiable ST kI).before a0 Z = true)
    {x b : Addr} {kC : ClassId} {cs bs : List Int32} {d v0 c0 : Value} {z N : Int32} {n n0 : Nat} (hx0 : n0 ≤ x) (hh0 : n0 ≤ h.size) (E : RoadKit.Exa Z h x ST) (V : RoadKit.Fld Z h x ST "value" "[B" v0) (C : RoadKit.Fld Z h x ST "coder" "B" c0) (K : RoadKit.Arv Z h b kC .char N (cs.map Value.int) d) (S : RoadKit.Sta Z h ST "COMPACT_STRINGS" "Z" (.int z)) (hz : ¬ z = 0)
    (hn : cs.length = n) (hN : N = Int32.ofNat n) (l0 : 0 < n) (l2 : n ≤ 4000) (hp : ∀ c ∈ cs, ¬ c < 0 ∧ ¬ (255 : Int32) < c) (hb : bs = cs.map (fun c => c.toInt8.toInt32)) (hfr : 4 ≤ R.frames) (hlo : W + 65 ≤ R.locals) :
    Back l R p e below s args (⟨"java/lang/String", "<init>", "([C)V"⟩ : MethodName) len W (fun P a => a = #[.ref x, .ref b] ∧ P.U.heap = h ∧ P.cells + 1 ≤ R.cells ∧ P.slots + n ≤ R.slots)
      (fun P _ v B => ∃ L, QV Z x N bs h n0 v B.U.heap L ∧ B.locs = P.locs ++ L ∧ B.cells = P.cells + 1 ∧ B.slots = P.slots + n) := by
  subst hn hN hb
  refine Back.mono (backArv hZ hw wi E V C K S hz (n32 (by omega)) l0 (by omega) (fun c hc => (hp c hc).2) hfr hlo) (fun P a hp => hp) (fun P a v B hp hq => ?_)
  obtain ⟨L, ⟨q1, q2, q3, q4, q5, q6, q7, ⟨kb, v1, v2⟩, q9⟩, hl, hc, hs⟩ := hq
  exact ⟨L, ⟨q1, fun y hy => by rw [q2 y hy]; exact hx0, q3, q5, q7, h.size, kb, hh0, Nat.le_refl _, Nat.ne_of_gt E.lt, q6, by rw [List.map_map]; exact v2⟩, hl, hc, hs⟩
end StrChars.Road
namespace StrChars
open Jvm Sem ClassFile Op Lib Jvm.Stand Jvm.Free.XT Jvm.Free.ALB Jvm.Free.JM Jvm.Free
open Jvm.Lib.Cold (StaticIs)
def hi8 (x : Int32) : Int32 := lo8 (x >>> ((8 : Int32) &&& 31))
/-- what StringUTF16.getChar makes of two bytes -/
def pairCh (u v : Int32) : Int32 := (((u &&& 255) <<< ((0 : Int32) &&& 31)) ||| ((v &&& 255) <<< ((8 : Int32) &&& 31))).toUInt32.toUInt16.toUInt32.toInt32
theorem lo8_and (x : Int32) : (lo8 x &&& 255).toBitVec.toNat = x.toBitVec.toNat % 256 := by
  have h : (lo8 x).toBitVec = (x.toBitVec.signExtend 8).signExtend 32 := by rw [lo8, Int8.toBitVec_toInt32, Int32.toBitVec_toInt8]
  rw [Int32.toBitVec_and, BitVec.toNat_and, h]
  have e : ((x.toBitVec.signExtend 8).signExtend 32).toNat % 256 = x.toBitVec.toNat % 256 := by
    rw [BitVec.toNat_signExtend]
    have hlt := x.toBitVec.isLt
    simp only [BitVec.toNat_setWidth, BitVec.toNat_signExtend]
    split <;> split <;> omega
  rw [← e]
  exact Nat.and_two_pow_sub_one_eq_mod _ 8
theorem pair_says {c : Int32} (h0 : ¬ c < 0) (h1 : ¬ 65535 < c) : pairCh (lo8 c) (hi8 c) = c := by
  rw [Int32.lt_iff_toInt_lt] at h0 h1
  have e0 : (0 : Int32).toInt = 0 := rfl
  have e1 : (65535 : Int32).toInt = 65535 := rfl
  have hc : c.toInt = c.toBitVec.toNat := by
    have := c.toBitVec.isLt
    have e : c.toInt = c.toBitVec.toInt := rfl
    rw [e] at h0 h1
    rw [e]
    rw [BitVec.toInt_eq_toNat_cond] at h0 h1 ⊢
    split at h0 <;> split <;> omega
  have hn : c.toBitVec.toNat < 65536 := by omega
  have a1 := lo8_and c
  have a2 : (hi8 c &&& 255).toBitVec.toNat = c.toBitVec.toNat / 256 := by
    rw [hi8, lo8_and]
    have e : ((8 : Int32) &&& 31) = 8 := by decide
    rw [e, Int32.toBitVec_shiftRight]
    have e2 : ((8 : Int32).toBitVec.smod 32) = 8#32 := by decide
    rw [e2, BitVec.sshiftRight_eq', BitVec.toNat_sshiftRight_of_msb_false (by rw [BitVec.msb_eq_false_iff_two_mul_lt]; omega)]
    show c.toBitVec.toNat >>> 8 % 256 = _
    rw [Nat.shiftRight_eq_div_pow]
    omega
  unfold pairCh
  apply Int32.toBitVec_inj.mp
  apply BitVec.eq_of_toNat_eq
  have f0 : ((0 : Int32) &&& 31) = 0 := by decide
  have f8 : ((8 : Int32) &&& 31) = 8 := by decide
  rw [f0, f8]
  have g : (((lo8 c &&& 255) <<< (0 : Int32)) ||| ((hi8 c &&& 255) <<< (8 : Int32))).toBitVec.toNat = c.toBitVec.toNat := by
    rw [Int32.toBitVec_or, Int32.toBitVec_shiftLeft, Int32.toBitVec_shiftLeft]
    have s0 : ((0 : Int32).toBitVec.smod 32) = 0#32 := by decide
    have s8 : ((8 : Int32).toBitVec.smod 32) = 8#32 := by decide
    rw [s0, s8, BitVec.toNat_or]
    simp only [BitVec.shiftLeft_eq', BitVec.toNat_shiftLeft, a1, a2]
    show (c.toBitVec.toNat % 256) <<< 0 % 2 ^ 32 ||| (c.toBitVec.toNat / 256) <<< 8 % 2 ^ 32 = _
    rw [Nat.shiftLeft_zero, Nat.mod_eq_of_lt (show c.toBitVec.toNat % 256 < 2 ^ 32 by omega), Nat.mod_eq_of_lt (show (c.toBitVec.toNat / 256) <<< 8 < 2 ^ 32 by rw [Nat.shiftLeft_eq]; omega), Nat.or_comm, ← Nat.shiftLeft_add_eq_or_of_lt (by omega), Nat.shiftLeft_eq]
    omega
  show BitVec.toNat (((((lo8 c &&& 255) <<< (0 : Int32)) ||| ((hi8 c &&& 255) <<< (8 : Int32))).toBitVec.setWidth 16).setWidth 32) = _
  rw [BitVec.toNat_setWidth, BitVec.toNat_setWidth, g]
  omega
end StrChars
namespace StrChars
open Jvm Sem ClassFile Op Lib Jvm.Stand Jvm.Free.XT Jvm.Free.ALB Jvm.Free.JM Jvm.Free
open Jvm.Lib.Cold (StaticIs)
/-- the array's cell V codes the n chars f 0 .. f (n - 1) by the coder cd, as the JDK does: coder 1 just where some char is above 255 -/
def Cod (cd : Int32) (n : Nat) (f : Nat → Int32) (V : Cell) : Prop := (cd = 0 ∧ V.slots.size = n ∧ ∀ j, j < n → V.slots[j]? = some (.int (lo8 (f j))) ∧ ¬ 255 < f j) ∨ (cd = 1 ∧ V.slots.size = 2 * n ∧ (∀ j, j < n → V.slots[2 * j]? = some (.int (lo8 (f j))) ∧ V.slots[2 * j + 1]? = some (.int (hi8 (f j)))) ∧ ∃ j, j < n ∧ 255 < f j)
/-- **x is a String of the n chars f 0 .. f (n - 1)**, Latin-1 or UTF-16; its array at t has the cell V -/
def Txt (x t : Addr) (V : Cell) (cd : Int32) (n : Nat) (f : Nat → Int32) (U : State) : Prop := Exact "java/lang/String" x U ∧ Has x "java/lang/String" "value" "[B" (.ref t) U ∧ Has x "java/lang/String" "coder" "B" (.int cd) U ∧ XT.Arr .byte t V U ∧ Cod cd n f V ∧ ∀ j, j < n → ¬ f j < 0 ∧ ¬ 65535 < f j
theorem Txt.mv {x t : Addr} {V : Cell} {cd : Int32} {n : Nat} {f : Nat → Int32} {U U' : State} (h : Txt x t V cd n f U) (hal : U.vm.Alike U'.vm) (hh : U'.heap = U.heap) : Txt x t V cd n f U' := ⟨h.1.mv hal hh, h.2.1.mv hal hh, h.2.2.1.mv hal hh, h.2.2.2.1.mv hal hh, h.2.2.2.2⟩
end StrChars
namespace StrChars.Road
open Jvm Sem ClassFile Op Lib Jvm.Stand Jvm.Free Jvm.Free.XT
open Jvm.Lib.Cold (StaticIs)
theorem consq {a : Array Value} {s : State} {c : Jvm.Cond} {L : List Jvm.Cond} (h0 : c.before a s = true) (h : ∀ w ∈ L, w.before a s = true) : ∀ w ∈ c :: L, w.before a s = true := fun w hw => (List.mem_cons.mp hw).elim (fun e => e ▸ h0) (h w)
/-- the bytes of the chars cs, low before high -/
def wideBytes : List Int32 → List Value
  | [] => []
  | c :: cs => .int (lo8 c) :: .int (hi8 c) :: wideBytes cs
theorem wide_lo (d : Value) : ∀ (cs : List Int32) (j : Nat), j < cs.length → (wideBytes cs).getD (2 * j) d = .int (lo8 (cs.getD j 0))
  | [], j, h => absurd h (Nat.not_lt_zero j)
  | c :: cs, 0, _ => rfl
  | c :: cs, j + 1, h => by
    have q := wide_lo d cs j (by simpa using h)
    rw [show 2 * (j + 1) = 2 * j + 1 + 1 from by omega]
    simpa [wideBytes] using q
theorem wide_hi (d : Value) : ∀ (cs : List Int32) (j : Nat), j < cs.length → (wideBytes cs).getD (2 * j + 1) d = .int (hi8 (cs.getD j 0))
  | [], j, h => absurd h (Nat.not_lt_zero j)
  | c :: cs, 0, _ => rfl
  | c :: cs, j + 1, h => by
    have q := wide_hi d cs j (by simpa using h)
    rw [show 2 * (j + 1) + 1 = 2 * j + 1 + 1 + 1 from by omega]
    simpa [wideBytes] using q
theorem low_at (d : Value) (cs : List Int32) (j : Nat) (h : j < cs.length) : (cs.map fun c => Value.int (lo8 c)).getD j d = .int (lo8 (cs.getD j 0)) := by
  simp [List.getD_eq_getElem?_getD, h]
/-- an array of N2 bytes vs codes the chars cs by the coder cd -/
def CodA (cs : List Int32) (cd N2 : Int32) (vs : List Value) : Prop := (cd = 0 ∧ N2 = Int32.ofNat cs.length ∧ vs = (cs.map fun c => Value.int (lo8 c)) ∧ ∀ c ∈ cs, ¬ 255 < c) ∨ (cd = 1 ∧ N2 = Int32.ofNat (2 * cs.length) ∧ vs = wideBytes cs ∧ ∃ c ∈ cs, 255 < c)
theorem CodA.cod {cs : List Int32} {cd N2 : Int32} {vs : List Value} {V : Cell} (h : CodA cs cd N2 vs) (hn : 2 * cs.length < 2 ^ 31) (hs : V.slots.size = N2.toNatClampNeg) (hv : RoadKit.Has V vs (.int 0)) : Cod cd cs.length (fun j => cs.getD j 0) V := by
  rcases h with ⟨rfl, rfl, rfl, h⟩ | ⟨rfl, rfl, rfl, c, hc, hw⟩
  · rw [n32 (by omega)] at hs
    exact Or.inl ⟨rfl, hs, fun j hj => ⟨by rw [hv j (by omega), low_at _ _ _ hj], by
      have e : cs.getD j 0 = cs[j] := by simp [List.getD_eq_getElem?_getD, hj]
      show ¬ 255 < cs.getD j 0
      rw [e]; exact h _ (List.getElem_mem _)⟩⟩
  · rw [n32 (by omega)] at hs
    obtain ⟨j, hj, rfl⟩ := List.getElem_of_mem hc
    exact Or.inr ⟨rfl, hs, fun j hj => ⟨by rw [hv _ (by omega), wide_lo _ _ _ hj], by rw [hv _ (by omega), wide_hi _ _ _ hj]⟩, j, hj, by
      have e : cs.getD j 0 = cs[j] := by simp [List.getD_eq_getElem?_getD, hj]
      show 255 < cs.getD j 0
      rw [e]; exact hw⟩
/-- an object of exactly java/lang/String, its two fields found: as the laws ask it -/
theorem strObj {Z U : State} {a0 : Array Value} {kI : Nat} (wi : (Jvm.Cond.instantiable ST kI).before a0 Z = true) (al : Z.vm.Alike U.vm) {x : Addr} {v0 c0 : Value} (E : RoadKit.Exa Z U.heap x ST) (V : RoadKit.Fld Z U.heap x ST "value" "[B" v0) (C : RoadKit.Fld Z U.heap x ST "coder" "B" c0) :
    ∃ (D : Cell) (fV fC : Field), Blank ST x D U ∧ Found ST "value" "[B" fV U ∧ Found ST "coder" "B" fC U ∧ D.slots[fV.slot]? = some v0 ∧ D.slots[fC.slot]? = some c0 ∧ RoadKit.slotOf Z ST "value" "[B" = fV.slot ∧ RoadKit.slotOf Z ST "coder" "B" = fC.slot := by
  obtain ⟨D, cfV, kV, iV, fV, hD, gV, stV, knV, obV, asV, slV⟩ := V
  obtain ⟨D', cfC, kC, iC, fC, hD', gC, stC, -, -, asC, slC⟩ := C
  cases hD.symm.trans hD'
  obtain ⟨D2, kD, e1, e2, e3, e4, e5⟩ := E
  cases hD.symm.trans e1
  obtain ⟨c2, k2, i1, i2, i3, -⟩ := Cond.instantiable_spec wi
  cases e2.symm.trans i1
  cases e3.symm.trans i2
  obtain ⟨kU, u1, u2⟩ := al.2.2 _ _ e3
  exact ⟨D, fV, fC, ⟨hD, ⟨knV, fun q hq => by rw [hq] at obV; cases obV⟩, by rw [al.findClass]; exact e2, kU, u1, by rw [u2]; exact i3, by rw [u2]; exact e5 i3⟩, ⟨SBG.found_only al ⟨cfV, kV, iV, gV⟩, stV⟩, ⟨SBG.found_only al ⟨cfC, kC, iC, gC⟩, stC⟩, slV, slC, by simp [RoadKit.slotOf, gV], by simp [RoadKit.slotOf, gC]⟩
theorem sta_is {Z U : State} (al : Z.vm.Alike U.vm) {C n d : String} {v : Value} (S : RoadKit.Sta Z U.heap C n d v) : StaticIs U C n d v := by
  obtain ⟨cfS, iS, kS, fS, st, cS, t1, t2, t3, t4, t5, t6, t7⟩ := S
  exact StaticIs.there (s := { Z with heap := U.heap }) ⟨cfS, iS, kS, fS, st, cS, t1, t2, t3, t4, t5, (fun q => by rw [q] at t6; cases t6), t7⟩ al rfl
end StrChars.Road
namespace StrChars
open Jvm Sem ClassFile Op Lib Jvm.Stand Jvm.Free.XT Jvm.Free.ALB Jvm.Free.JM Jvm.Free
open Jvm.Lib.Cold (StaticIs)
/-- what place i of a byte[]'s cell holds -/
def yv (A : Cell) (i : Nat) : Int32 := match A.slots[i]? with | some (.int x) => x | _ => 0
theorem yv_get {a : Addr} {A : Cell} {U : State} (h : XT.Arr .byte a A U) (ht : Typed .byte A) {i : Nat} (hi : i < A.slots.size) : A.slots[i]? = some (.int (yv A i)) := by
  have e := Array.getElem?_eq_getElem hi
  have f := ht i _ e
  unfold yv; rw [e]
  generalize A.slots[i] = v at f
  cases v <;> simp [fits] at f ⊢
/-- the two arrays are equal, place for place -/
def EqC (A B : Cell) : Prop := A.slots.size = B.slots.size ∧ ∀ i, i < A.slots.size → yv A i = yv B i
/-- a boolean that says whether p -/
def Says01 (q : Prop) (r : Option Value) (s u : State) : Prop := ∃ v : Int32, r = some (.int v) ∧ u.heap = s.heap ∧ ((v = 1 ∧ q) ∨ (v = 0 ∧ ¬ q))
theorem Says01.mv {q : Prop} : ∀ r (U U' V V' : State), U'.heap = U.heap → V.vm.Alike V'.vm → V'.heap = V.heap → Says01 q r U V → Says01 q r U' V' :=
  fun r U U' V V' h1 _ h2 ⟨v, a, b, c⟩ => ⟨v, a, by rw [h1, h2]; exact b, c⟩
namespace LEq
def yN : MethodName := ⟨"java/lang/StringLatin1", "equals", "([B[B)Z"⟩
abbrev yB : ByteArray := jdk_43_method_13_code
theorem d0 : decode yB 0 = .ok (.aload_n 0, 1) := by decide +kernel
theorem d1 : decode yB 1 = .ok (.arraylength, 1) := by decide +kernel
theorem d2 : decode yB 2 = .ok (.aload_n 1, 1) := by decide +kernel
theorem d3 : decode yB 3 = .ok (.arraylength, 1) := by decide +kernel
theorem d4 : decode yB 4 = .ok (.if_icmp (.ne) 30, 3) := by decide +kernel
theorem d7 : decode yB 7 = .ok (.iconst 0, 1) := by decide +kernel
theorem d8 : decode yB 8 = .ok (.istore_n 2, 1) := by decide +kernel
theorem d9 : decode yB 9 = .ok (.iload_n 2, 1) := by decide +kernel
theorem d10 : decode yB 10 = .ok (.aload_n 0, 1) := by decide +kernel
theorem d11 : decode yB 11 = .ok (.arraylength, 1) := by decide +kernel
theorem d12 : decode yB 12 = .ok (.if_icmp (.ge) 20, 3) := by decide +kernel
theorem d15 : decode yB 15 = .ok (.aload_n 0, 1) := by decide +kernel
theorem d16 : decode yB 16 = .ok (.iload_n 2, 1) := by decide +kernel
theorem d17 : decode yB 17 = .ok (.baload, 1) := by decide +kernel
theorem d18 : decode yB 18 = .ok (.aload_n 1, 1) := by decide +kernel
theorem d19 : decode yB 19 = .ok (.iload_n 2, 1) := by decide +kernel
theorem d20 : decode yB 20 = .ok (.baload, 1) := by decide +kernel
theorem d21 : decode yB 21 = .ok (.if_icmp (.eq) 5, 3) := by decide +kernel
theorem d24 : decode yB 24 = .ok (.iconst 0, 1) := by decide +kernel
theorem d25 : decode yB 25 = .ok (.ireturn, 1) := by decide +kernel
theorem d26 : decode yB 26 = .ok (.iinc 2 1, 3) := by decide +kernel
theorem d29 : decode yB 29 = .ok (.goto (-20), 3) := by decide +kernel
theorem d32 : decode yB 32 = .ok (.iconst 1, 1) := by decide +kernel
theorem d33 : decode yB 33 = .ok (.ireturn, 1) := by decide +kernel
theorem d34 : decode yB 34 = .ok (.iconst 0, 1) := by decide +kernel
theorem d35 : decode yB 35 = .ok (.ireturn, 1) := by decide +kernel
def site : List Cond := []
def tab : Cond := tabOf yN yB 3 (some .boolean) site
def P (a : Addr) (A : Cell) (b : Addr) (B : Cell) (args : Array Value) (s : State) : Prop := args = #[.ref a, .ref b] ∧ XT.Arr .byte a A s ∧ Typed .byte A ∧ XT.Arr .byte b B s ∧ Typed .byte B
/-- whether two byte[] are equal, place for place -/
theorem law (l : Launch) (a : Addr) (A : Cell) (b : Addr) (B : Cell) : Law l yN 2 2 0 0 yB 3 (some .boolean) site (P a A b B) (Says01 (EqC A B)) [] 0 0 := by
  refine Law.of_walk (plainFor_of_name (by decide +kernel)) (by decide +kernel) (by decide +kernel) (by decide) (fun _ _ h => by rw [h.1]; rfl) (fun _ U U' hal hh h => ⟨h.1, h.2.1.mv hal hh, h.2.2.1, h.2.2.2.1.mv hal hh, h.2.2.2.2⟩) (fun r U U' V V' h1 hal h2 h => Says01.mv r U U' V V' h1 hal h2 h) ?_
  intro p e s m args below meth c s₁ X0 hexec hbytes hml hret hlk hnm hown hh0 W hP
  obtain ⟨rfl, hA, tA, hB, tB⟩ := hP
  have a31 := hA.2.2.2
  have b31 := hB.2.2.2
  have hA0 := hA.mv X0.warmed.alike hh0
  have hB0 := hB.mv X0.warmed.alike hh0
  have c1 : Steps p.tables e below (s₁.setTop (entryFrame m #[.ref a, .ref b] 3)) (s₁.setTop (mkF m 0 #[.val (.ref a), .val (.ref b), .unset] [])) := entry rfl
  have c2 : Steps p.tables e below (s₁.setTop (entryFrame m #[.ref a, .ref b] 3)) (s₁.setTop (mkF m 4 #[.val (.ref a), .val (.ref b), .unset] [.int (Int32.ofNat B.slots.size), .int (Int32.ofNat A.slots.size)])) := c1.trans (by
    refine XS.aloadN X0.here hexec rfl (hb hbytes d0) rfl rfl ?_
    refine X0.alen hexec hA0 rfl rfl (hb hbytes d1) ?_
    refine XS.aloadN X0.here hexec rfl (hb hbytes d2) rfl rfl ?_
    refine X0.alen hexec hB0 rfl rfl (hb hbytes d3) ?_
    exact Steps.refl _)
  by_cases hs : A.slots.size = B.slots.size
  · have c3 : Steps p.tables e below (s₁.setTop (entryFrame m #[.ref a, .ref b] 3)) (s₁.setTop (mkF m 9 #[.val (.ref a), .val (.ref b), .val (.int 0)] [])) := c2.trans (by
      refine XS.icmpNo X0.here hexec rfl (hb hbytes d4) rfl (ii_ne_f (by rw [hs])) ?_
      refine iconstV X0.here hexec rfl 0 (hb hbytes d7) (by decide) ?_
      refine XS.istoreN X0.here hexec rfl (hb hbytes d8) rfl rfl ?_
      exact Steps.refl _)
    have loop : ∀ (r i : Nat), i + r = A.slots.size → (∀ j, j < i → yv A j = yv B j) → Steps p.tables e below (s₁.setTop (entryFrame m #[.ref a, .ref b] 3)) (s₁.setTop (mkF m 9 #[.val (.ref a), .val (.ref b), .val (.int (Int32.ofNat i))] [])) → ∃ (pc : Nat) (Ls : Array Slot) (v : Int32), (pc = 25 ∨ pc = 33) ∧ ((v = 1 ∧ EqC A B) ∨ (v = 0 ∧ ¬ EqC A B)) ∧ Steps p.tables e below (s₁.setTop (entryFrame m #[.ref a, .ref b] 3)) (s₁.setTop (mkF m pc Ls [.int v])) := by
      intro r
      induction r with
      | zero =>
        intro i hi he cl
        exact ⟨33, _, 1, Or.inr rfl, Or.inl ⟨rfl, hs, fun j hj => he j (by omega)⟩, cl.trans (by
          refine XS.iloadN X0.here hexec rfl (hb hbytes d9) rfl ?_
          refine XS.aloadN X0.here hexec rfl (hb hbytes d10) rfl rfl ?_
          refine X0.alen hexec hA0 rfl rfl (hb hbytes d11) ?_
          refine XS.icmpYes X0.here hexec rfl (pc0 := 12) rfl (hb hbytes d12) rfl (ii_ge_t (nlt32 (by omega) (by omega))) (by decide) rfl ?_
          refine iconstV X0.here hexec rfl 1 (hb hbytes d32) (by decide) ?_
          exact Steps.refl _)⟩
      | succ r ih =>
        intro i hi he cl
        have c4 : Steps p.tables e below (s₁.setTop (entryFrame m #[.ref a, .ref b] 3)) (s₁.setTop (mkF m 21 #[.val (.ref a), .val (.ref b), .val (.int (Int32.ofNat i))] [.int (yv B i), .int (yv A i)])) := cl.trans (by
          refine XS.iloadN X0.here hexec rfl (hb hbytes d9) rfl ?_
          refine XS.aloadN X0.here hexec rfl (hb hbytes d10) rfl rfl ?_
          refine X0.alen hexec hA0 rfl rfl (hb hbytes d11) ?_
          refine XS.icmpNo X0.here hexec rfl (hb hbytes d12) rfl (ii_ge_f (lt32 (by omega) (by omega))) ?_
          refine XS.aloadN X0.here hexec rfl (hb hbytes d15) rfl rfl ?_
          refine XS.iloadN X0.here hexec rfl (hb hbytes d16) rfl ?_
          refine X0.aget hexec hA0 rfl (yv_get hA tA (i := i) (by omega)) rfl rfl (hb hbytes d17) ?_
          refine XS.aloadN X0.here hexec rfl (hb hbytes d18) rfl rfl ?_
          refine XS.iloadN X0.here hexec rfl (hb hbytes d19) rfl ?_
          refine X0.aget hexec hB0 rfl (yv_get hB tB (i := i) (by omega)) rfl rfl (hb hbytes d20) ?_
          exact Steps.refl _)
        by_cases hv : yv A i = yv B i
        · have c5 : Steps p.tables e below (s₁.setTop (entryFrame m #[.ref a, .ref b] 3)) (s₁.setTop (mkF m 9 #[.val (.ref a), .val (.ref b), .val (.int (Int32.ofNat i + 1))] [])) := c4.trans (by
            refine XS.icmpYes X0.here hexec rfl (pc0 := 21) rfl (hb hbytes d21) rfl (ii_eq_t hv) (by decide) rfl ?_
            refine iincV X0.here hexec rfl 1 (hb hbytes d26) (by decide) rfl rfl ?_
            refine XS.goto X0.here hexec rfl (pc0 := 29) rfl (hb hbytes d29) (by decide) rfl ?_
            exact Steps.refl _)
          rw [succ32] at c5
          exact ih (i + 1) (by omega) (fun j hj => by
            by_cases e : j = i
            · rw [e]; exact hv
            · exact he j (by omega)) c5
        · exact ⟨25, _, 0, Or.inl rfl, Or.inr ⟨rfl, fun q => hv (q.2 i (by omega))⟩, c4.trans (by
            refine XS.icmpNo X0.here hexec rfl (hb hbytes d21) rfl (ii_eq_f hv) ?_
            refine iconstV X0.here hexec rfl 0 (hb hbytes d24) (by decide) ?_
            exact Steps.refl _)⟩
    obtain ⟨pc, Ls, v, hpc, hv, cz⟩ := loop A.slots.size 0 (by omega) (fun j hj => absurd hj (Nat.not_lt_zero j)) c3
    have nv : narrow .boolean (.int v) = .int v := by rcases hv with ⟨rfl, -⟩ | ⟨rfl, -⟩ <;> rfl
    rcases hpc with rfl | rfl
    · exact ⟨s₁, some (.int v), _, _, _, X0, rfl, rfl, rfl, (fun h => by cases h), ⟨v, rfl, hh0, hv⟩, fun fs hl => cz.trans (X0.ireturnOut hexec hret nv (Or.inr (Or.inl rfl)) (hb hbytes d25) hl)⟩
    · exact ⟨s₁, some (.int v), _, _, _, X0, rfl, rfl, rfl, (fun h => by cases h), ⟨v, rfl, hh0, hv⟩, fun fs hl => cz.trans (X0.ireturnOut hexec hret nv (Or.inr (Or.inl rfl)) (hb hbytes d33) hl)⟩
  · have c3 : Steps p.tables e below (s₁.setTop (entryFrame m #[.ref a, .ref b] 3)) (s₁.setTop (mkF m 35 #[.val (.ref a), .val (.ref b), .unset] [.int 0])) := c2.trans (by
      refine XS.icmpYes X0.here hexec rfl (pc0 := 4) rfl (hb hbytes d4) rfl (ii_ne_t (ne32 a31 b31 hs)) (by decide) rfl ?_
      refine iconstV X0.here hexec rfl 0 (hb hbytes d34) (by decide) ?_
      exact Steps.refl _)
    exact ⟨s₁, some (.int 0), _, _, _, X0, rfl, rfl, rfl, (fun h => by cases h), ⟨0, rfl, hh0, Or.inr ⟨rfl, fun q => hs q.1⟩⟩, fun fs hl => c3.trans (X0.ireturnOut hexec hret rfl (Or.inr (Or.inl rfl)) (hb hbytes d35) hl)⟩
end LEq
theorem Cod.ty {cd : Int32} {n : Nat} {f : Nat → Int32} {V : Cell} (h : Cod cd n f V) : Typed .byte V := fun i v hv => by
  have hi : i < V.slots.size := (Array.getElem?_eq_some_iff.mp hv).1
  rcases h with ⟨-, k1, k2⟩ | ⟨-, k1, k2, -⟩
  · rw [(k2 i (by omega)).1] at hv; cases hv; exact fits_lo8 _
  · rcases Nat.mod_two_eq_zero_or_one i with e | e
    · obtain ⟨j, rfl⟩ : ∃ j, i = 2 * j := ⟨i / 2, by omega⟩
      rw [(k2 j (by omega)).1] at hv; cases hv; exact fits_lo8 _
    · obtain ⟨j, rfl⟩ : ∃ j, i = 2 * j + 1 := ⟨i / 2, by omega⟩
      rw [(k2 j (by omega)).2] at hv; cases hv; exact fits_lo8 _
/-- the same text -/
def SameT (n : Nat) (f : Nat → Int32) (k : Nat) (g : Nat → Int32) : Prop := n = k ∧ ∀ j, j < n → f j = g j
theorem lo8_inj {x y : Int32} (h0 : ¬ x < 0) (h1 : ¬ 255 < x) (k0 : ¬ y < 0) (k1 : ¬ 255 < y) (h : lo8 x = lo8 y) : x = y := by
  rw [← lo8_mask h0 h1, ← lo8_mask k0 k1, h]
/-- arrays coded by one coder are equal just where the texts are -/
theorem Cod.eqv {cd : Int32} {n k : Nat} {f g : Nat → Int32} {V V' : Cell} (h : Cod cd n f V) (h' : Cod cd k g V') (hf : ∀ j, j < n → ¬ f j < 0 ∧ ¬ 65535 < f j) (hg : ∀ j, j < k → ¬ g j < 0 ∧ ¬ 65535 < g j) : EqC V V' ↔ SameT n f k g := by
  have yvv : ∀ {W : Cell} {i : Nat} {x : Int32}, W.slots[i]? = some (.int x) → yv W i = x := fun q => by unfold yv; rw [q]
  rcases h with ⟨rfl, k1, k2⟩ | ⟨rfl, k1, k2, -⟩
  · rcases h' with ⟨-, m1, m2⟩ | ⟨e, -⟩
    · constructor
      · rintro ⟨e1, e2⟩
        refine ⟨by omega, fun j hj => ?_⟩
        have q := e2 j (by omega)
        rw [yvv (k2 j hj).1, yvv (m2 j (by omega)).1] at q
        exact lo8_inj (hf j hj).1 (k2 j hj).2 (hg j (by omega)).1 (m2 j (by omega)).2 q
      · rintro ⟨rfl, e2⟩
        refine ⟨by omega, fun j hj => ?_⟩
        rw [yvv (k2 j (by omega)).1, yvv (m2 j (by omega)).1, e2 j (by omega)]
    · exact absurd e (by decide)
  · rcases h' with ⟨e, -⟩ | ⟨-, m1, m2, -⟩
    · exact absurd e (by decide)
    · constructor
      · rintro ⟨e1, e2⟩
        refine ⟨by omega, fun j hj => ?_⟩
        have q1 := e2 (2 * j) (by omega)
        have q2 := e2 (2 * j + 1) (by omega)
        rw [yvv (k2 j hj).1, yvv (m2 j (by omega)).1] at q1
        rw [yvv (k2 j hj).2, yvv (m2 j (by omega)).2] at q2
        rw [← pair_says (hf j hj).1 (hf j hj).2, ← pair_says (hg j (by omega)).1 (hg j (by omega)).2, q1, q2]
      · rintro ⟨rfl, e2⟩
        refine ⟨by omega, fun i hi => ?_⟩
        rcases Nat.mod_two_eq_zero_or_one i with e | e
        · obtain ⟨j, rfl⟩ : ∃ j, i = 2 * j := ⟨i / 2, by omega⟩
          rw [yvv (k2 j (by omega)).1, yvv (m2 j (by omega)).1, e2 j (by omega)]
        · obtain ⟨j, rfl⟩ : ∃ j, i = 2 * j + 1 := ⟨i / 2, by omega⟩
          rw [yvv (k2 j (by omega)).2, yvv (m2 j (by omega)).2, e2 j (by omega)]
/-- two codings differ: so do the texts -/
theorem Cod.dif {cd cd' : Int32} {n k : Nat} {f g : Nat → Int32} {V V' : Cell} (h : Cod cd n f V) (h' : Cod cd' k g V') (hne : ¬ cd = cd') : ¬ SameT n f k g := by
  rintro ⟨rfl, e⟩
  rcases h with ⟨rfl, -, k2⟩ | ⟨rfl, -, -, j, hj, hw⟩
  · rcases h' with ⟨rfl, -⟩ | ⟨-, -, -, j, hj, hw⟩
    · exact hne rfl
    · exact (k2 j hj).2 (by rw [e j hj]; exact hw)
  · rcases h' with ⟨-, -, m2⟩ | ⟨rfl, -⟩
    · exact (m2 j hj).2 (by rw [← e j hj]; exact hw)
    · exact hne rfl
/-- an object of exactly C is an instance of C -/
theorem cinst {p : Program} {l : Launch} {e : Env} {R : Room} {s : State} {m : MethodId} {args : Array Value} {below : List Frame} {meth : Method} {c : Code} {T : State} {locs : List Loc} {cells slots : Nat} (X : Stand p l e R s m args below meth c T locs cells slots) (hexec : p.tables.exec = Jvm.exec) {own C : String} {index : Nat} (hown : s.vm.findClass own = some m.cls) (hlink : (Cond.classLink own index C).before args s = true) {a : Addr} (hE : Exact C a T)
    {g : JFrame} (hg : g.method = m) {rest : List Value} (hstack : g.stack = .ref a :: rest) (hdg : decode c.code g.pc = .ok (.instanceof index, 3)) :
    ∃ T', Stand p l e R s m args below meth c T' locs cells slots ∧ T'.heap = T.heap ∧ ∀ target, Steps p.tables e below (T'.setTop { g with pc := g.pc + 3, stack := .int 1 :: rest }) target → Steps p.tables e below (T.setTop g) target := by
  obtain ⟨cB, h1, D, h2, h3, h4⟩ := hE
  have h1' : s.vm.findClass C = some cB := by rw [← X.warmed.alike.findClass]; exact h1
  obtain ⟨vm', X', st⟩ := X.instanceofYes hexec hown hlink h2 h4 h1' (by rw [h3]; exact Jvm.Free.SB.assignable_self _ _) hg hstack hdg
  exact ⟨_, X', rfl, st⟩
theorem cself {p : Program} {l : Launch} {e : Env} {R : Room} {s : State} {m : MethodId} {args : Array Value} {below : List Frame} {meth : Method} {c : Code} {T : State} {locs : List Loc} {cells slots : Nat} (X : Stand p l e R s m args below meth c T locs cells slots) (hexec : p.tables.exec = Jvm.exec) {own C : String} {index : Nat} (hown : s.vm.findClass own = some m.cls) (hlink : (Cond.classLink own index C).before args s = true) {a : Addr} (hE : Exact C a T)
    {g : JFrame} (hg : g.method = m) {rest : List Value} (hstack : g.stack = .ref a :: rest) (hdg : decode c.code g.pc = .ok (.checkcast index, 3)) :
    ∃ T', Stand p l e R s m args below meth c T' locs cells slots ∧ T'.heap = T.heap ∧ ∀ target, Steps p.tables e below (T'.setTop { g with pc := g.pc + 3, stack := .ref a :: rest }) target → Steps p.tables e below (T.setTop g) target := by
  obtain ⟨cB, h1, D, h2, h3, h4⟩ := hE
  have h1' : s.vm.findClass C = some cB := by rw [← X.warmed.alike.findClass]; exact h1
  obtain ⟨vm', X', st⟩ := X.checkcastYes hexec hown hlink h2 h4 h1' (by rw [h3]; exact Jvm.Free.SB.assignable_self _ _) hg hstack hdg
  exact ⟨_, X', rfl, fun t h => st t (by rw [← hstack] at h; exact h)⟩
namespace SEq
def yN : MethodName := ⟨"java/lang/String", "equals", "(Ljava/lang/Object;)Z"⟩
abbrev yB : ByteArray := jdk_42_method_66_code
theorem d0 : decode yB 0 = .ok (.aload_n 0, 1) := by decide +kernel
theorem d1 : decode yB 1 = .ok (.aload_n 1, 1) := by decide +kernel
theorem d2 : decode yB 2 = .ok (.if_acmp (.ne) 5, 3) := by decide +kernel
theorem d5 : decode yB 5 = .ok (.iconst 1, 1) := by decide +kernel
theorem d6 : decode yB 6 = .ok (.ireturn, 1) := by decide +kernel
theorem d7 : decode yB 7 = .ok (.aload_n 1, 1) := by decide +kernel
theorem d8 : decode yB 8 = .ok (.instanceof 10, 3) := by decide +kernel
theorem d11 : decode yB 11 = .ok (.ifCond (.eq) 43, 3) := by decide +kernel
theorem d14 : decode yB 14 = .ok (.aload_n 1, 1) := by decide +kernel
theorem d15 : decode yB 15 = .ok (.checkcast 10, 3) := by decide +kernel
theorem d18 : decode yB 18 = .ok (.astore_n 2, 1) := by decide +kernel
theorem d19 : decode yB 19 = .ok (.getstatic 38, 3) := by decide +kernel
theorem d22 : decode yB 22 = .ok (.ifCond (.eq) 14, 3) := by decide +kernel
theorem d25 : decode yB 25 = .ok (.aload_n 0, 1) := by decide +kernel
theorem d26 : decode yB 26 = .ok (.getfield 15, 3) := by decide +kernel
theorem d29 : decode yB 29 = .ok (.aload_n 2, 1) := by decide +kernel
theorem d30 : decode yB 30 = .ok (.getfield 15, 3) := by decide +kernel
theorem d33 : decode yB 33 = .ok (.if_icmp (.ne) 21, 3) := by decide +kernel
theorem d36 : decode yB 36 = .ok (.aload_n 0, 1) := by decide +kernel
theorem d37 : decode yB 37 = .ok (.getfield 9, 3) := by decide +kernel
theorem d40 : decode yB 40 = .ok (.aload_n 2, 1) := by decide +kernel
theorem d41 : decode yB 41 = .ok (.getfield 9, 3) := by decide +kernel
theorem d44 : decode yB 44 = .ok (.invokestatic 541, 3) := by decide +kernel
theorem d47 : decode yB 47 = .ok (.ifCond (.eq) 7, 3) := by decide +kernel
theorem d50 : decode yB 50 = .ok (.iconst 1, 1) := by decide +kernel
theorem d51 : decode yB 51 = .ok (.goto 4, 3) := by decide +kernel
theorem d54 : decode yB 54 = .ok (.iconst 0, 1) := by decide +kernel
theorem d55 : decode yB 55 = .ok (.ireturn, 1) := by decide +kernel
def site : List Cond := [.classLink "java/lang/String" 10 "java/lang/String", .fieldLink "java/lang/String" 38 "java/lang/String" "COMPACT_STRINGS" "Z", .fieldLink "java/lang/String" 15 "java/lang/String" "coder" "B", .fieldLink "java/lang/String" 9 "java/lang/String" "value" "[B", LEq.tab] ++ staticW "java/lang/String" 541 LEq.yN
def tab : Cond := tabOf yN yB 3 (some .boolean) site
def P (x t : Addr) (V : Cell) (cd : Int32) (n : Nat) (f : Nat → Int32) (y t' : Addr) (V' : Cell) (cd' : Int32) (k : Nat) (g : Nat → Int32) (z : Int32) (args : Array Value) (s : State) : Prop := args = #[.ref x, .ref y] ∧ Txt x t V cd n f s ∧ Txt y t' V' cd' k g s ∧ StaticIs s "java/lang/String" "COMPACT_STRINGS" "Z" (.int z) ∧ ¬ z = 0
/-- equals(Object) of two Strings: whether the texts are the same -/
theorem law (l : Launch) (x t : Addr) (V : Cell) (cd : Int32) (n : Nat) (f : Nat → Int32) (y t' : Addr) (V' : Cell) (cd' : Int32) (k : Nat) (g : Nat → Int32) (z : Int32) : Law l yN 2 1 1 14 yB 3 (some .boolean) site (P x t V cd n f y t' V' cd' k g z) (Says01 (SameT n f k g)) [] 0 0 := by
  refine Law.of_walk (plainFor_of_name (by decide +kernel)) (by decide +kernel) (by decide +kernel) (by decide) (fun _ _ h => by rw [h.1]; rfl) (fun _ U U' hal hh h => ⟨h.1, h.2.1.mv hal hh, h.2.2.1.mv hal hh, h.2.2.2.1.there hal hh, h.2.2.2.2⟩) (fun r U U' V V' h1 hal h2 h => Says01.mv r U U' V V' h1 hal h2 h) ?_
  intro p e s m args below meth c s₁ X0 hexec hbytes hml hret hlk hnm hown hh0 W hP
  obtain ⟨rfl, hx, hy, s1, hz⟩ := hP
  have c1 : Steps p.tables e below (s₁.setTop (entryFrame m #[.ref x, .ref y] 3)) (s₁.setTop (mkF m 2 #[.val (.ref x), .val (.ref y), .unset] [.ref y, .ref x])) := Steps.trans (entry rfl) (by
    show Steps p.tables e below (s₁.setTop (mkF m 0 #[.val (.ref x), .val (.ref y), .unset] [])) _
    refine XS.aloadN X0.here hexec rfl (hb hbytes d0) rfl rfl ?_
    refine XS.aloadN X0.here hexec rfl (hb hbytes d1) rfl rfl ?_
    exact Steps.refl _)
  by_cases hxy : x = y
  · have c2 : Steps p.tables e below (s₁.setTop (entryFrame m #[.ref x, .ref y] 3)) (s₁.setTop (mkF m 6 #[.val (.ref x), .val (.ref y), .unset] [.int 1])) := c1.trans (by
      refine acmpNo X0.here hexec rfl (hb hbytes d2) rfl rfl rfl (by simp [acmp, hxy]) ?_
      refine iconstV X0.here hexec rfl 1 (hb hbytes d5) (by decide) ?_
      exact Steps.refl _)
    subst hxy
    have ec : cd = cd' := by
      obtain ⟨D, fd, a1, a2, a3⟩ := hx.2.2.1
      obtain ⟨D', fd', b1, b2, b3⟩ := hy.2.2.1
      cases a1.symm.trans b1
      obtain ⟨q1, q2, q3, q4⟩ := a2.1
      obtain ⟨r1, r2, r3, r4⟩ := b2.1
      cases q4.symm.trans r4
      cases a3.symm.trans b3; rfl
    have et : t = t' := by
      obtain ⟨D, fd, a1, a2, a3⟩ := hx.2.1
      obtain ⟨D', fd', b1, b2, b3⟩ := hy.2.1
      cases a1.symm.trans b1
      obtain ⟨q1, q2, q3, q4⟩ := a2.1
      obtain ⟨r1, r2, r3, r4⟩ := b2.1
      cases q4.symm.trans r4
      cases a3.symm.trans b3; rfl
    subst ec et
    have ev : V = V' := by cases hx.2.2.2.1.1.symm.trans hy.2.2.2.1.1; rfl
    subst ev
    have hs : SameT n f k g := (Cod.eqv hx.2.2.2.2.1 hy.2.2.2.2.1 hx.2.2.2.2.2 hy.2.2.2.2.2).mp ⟨rfl, fun _ _ => rfl⟩
    exact ⟨s₁, some (.int 1), _, _, _, X0, rfl, rfl, rfl, (fun h => by cases h), ⟨1, rfl, hh0, Or.inl ⟨rfl, hs⟩⟩, fun fs hl => c2.trans (X0.ireturnOut hexec hret rfl (Or.inr (Or.inl rfl)) (hb hbytes d6) hl)⟩
  · have c2 : Steps p.tables e below (s₁.setTop (entryFrame m #[.ref x, .ref y] 3)) (s₁.setTop (mkF m 8 #[.val (.ref x), .val (.ref y), .unset] [.ref y])) := c1.trans (by
      refine acmpYes X0.here hexec rfl (pc0 := 2) rfl (hb hbytes d2) rfl rfl rfl (by simp [acmp, hxy]) (by decide) rfl ?_
      refine XS.aloadN X0.here hexec rfl (hb hbytes d7) rfl rfl ?_
      exact Steps.refl _)
    obtain ⟨T3, X3, q3, st3⟩ := cinst X0 hexec hown (wk W (.classLink "java/lang/String" 10 "java/lang/String")) (hy.mv X0.warmed.alike hh0).1 (g := (mkF m 8 #[.val (.ref x), .val (.ref y), .unset] [.ref y])) rfl (rest := []) rfl (hb hbytes d8)
    have hh3 := q3.trans hh0
    have c4 : Steps p.tables e below (s₁.setTop (entryFrame m #[.ref x, .ref y] 3)) (T3.setTop (mkF m 15 #[.val (.ref x), .val (.ref y), .unset] [.ref y])) := (c2.trans (st3 _ (Steps.refl _))).trans (by
      refine XS.ifNo X3.here hexec rfl (hb hbytes d11) rfl (i0_eq_f (by decide)) ?_
      refine XS.aloadN X3.here hexec rfl (hb hbytes d14) rfl rfl ?_
      exact Steps.refl _)
    obtain ⟨T5, X5, q5, st5⟩ := cself X3 hexec hown (wk W (.classLink "java/lang/String" 10 "java/lang/String")) (hy.mv X3.warmed.alike hh3).1 (g := (mkF m 15 #[.val (.ref x), .val (.ref y), .unset] [.ref y])) rfl (rest := []) rfl (hb hbytes d15)
    have hh5 := q5.trans hh3
    have c6 : Steps p.tables e below (s₁.setTop (entryFrame m #[.ref x, .ref y] 3)) (T5.setTop (mkF m 19 #[.val (.ref x), .val (.ref y), .val (.ref y)] [])) := (c4.trans (st5 _ (Steps.refl _))).trans (by
      refine XS.astoreN X5.here hexec rfl (hb hbytes d18) rfl rfl rfl ?_
      exact Steps.refl _)
    obtain ⟨T7, X7, q7, st7⟩ := X5.sget hexec hown (wk W (.fieldLink "java/lang/String" 38 "java/lang/String" "COMPACT_STRINGS" "Z")) s1 (fun _ _ h => by rw [hh5]; exact h) (g := (mkF m 19 #[.val (.ref x), .val (.ref y), .val (.ref y)] [])) rfl (hb hbytes d19)
    have hh7 := q7.trans hh5
    have c8 : Steps p.tables e below (s₁.setTop (entryFrame m #[.ref x, .ref y] 3)) (T7.setTop (mkF m 26 #[.val (.ref x), .val (.ref y), .val (.ref y)] [.ref x])) := (c6.trans (st7 _ (Steps.refl _))).trans (by
      refine XS.ifNo X7.here hexec rfl (hb hbytes d22) rfl (i0_eq_f hz) ?_
      refine XS.aloadN X7.here hexec rfl (hb hbytes d25) rfl rfl ?_
      exact Steps.refl _)
    obtain ⟨T9, X9, q9, st9⟩ := X7.hget hexec hown (wk W (.fieldLink "java/lang/String" 15 "java/lang/String" "coder" "B")) (hx.mv X7.warmed.alike hh7).2.2.1 (g := (mkF m 26 #[.val (.ref x), .val (.ref y), .val (.ref y)] [.ref x])) rfl (rest := []) rfl (hb hbytes d26)
    have hh9 := q9.trans hh7
    have c10 : Steps p.tables e below (s₁.setTop (entryFrame m #[.ref x, .ref y] 3)) (T9.setTop (mkF m 30 #[.val (.ref x), .val (.ref y), .val (.ref y)] [.ref y, .int cd])) := (c8.trans (st9 _ (Steps.refl _))).trans (by
      refine XS.aloadN X9.here hexec rfl (hb hbytes d29) rfl rfl ?_
      exact Steps.refl _)
    obtain ⟨T11, X11, q11, st11⟩ := X9.hget hexec hown (wk W (.fieldLink "java/lang/String" 15 "java/lang/String" "coder" "B")) (hy.mv X9.warmed.alike hh9).2.2.1 (g := (mkF m 30 #[.val (.ref x), .val (.ref y), .val (.ref y)] [.ref y, .int cd])) rfl (rest := [.int cd]) rfl (hb hbytes d30)
    have hh11 := q11.trans hh9
    have c12 : Steps p.tables e below (s₁.setTop (entryFrame m #[.ref x, .ref y] 3)) (T11.setTop (mkF m 33 #[.val (.ref x), .val (.ref y), .val (.ref y)] [.int cd', .int cd])) := c10.trans (st11 _ (Steps.refl _))
    by_cases hcd : cd = cd'
    · subst hcd
      have c13 : Steps p.tables e below (s₁.setTop (entryFrame m #[.ref x, .ref y] 3)) (T11.setTop (mkF m 37 #[.val (.ref x), .val (.ref y), .val (.ref y)] [.ref x])) := c12.trans (by
        refine XS.icmpNo X11.here hexec rfl (hb hbytes d33) rfl (ii_ne_f rfl) ?_
        refine XS.aloadN X11.here hexec rfl (hb hbytes d36) rfl rfl ?_
        exact Steps.refl _)
      obtain ⟨T14, X14, q14, st14⟩ := X11.hget hexec hown (wk W (.fieldLink "java/lang/String" 9 "java/lang/String" "value" "[B")) (hx.mv X11.warmed.alike hh11).2.1 (g := (mkF m 37 #[.val (.ref x), .val (.ref y), .val (.ref y)] [.ref x])) rfl (rest := []) rfl (hb hbytes d37)
      have hh14 := q14.trans hh11
      have c15 : Steps p.tables e below (s₁.setTop (entryFrame m #[.ref x, .ref y] 3)) (T14.setTop (mkF m 41 #[.val (.ref x), .val (.ref y), .val (.ref y)] [.ref y, .ref t])) := (c13.trans (st14 _ (Steps.refl _))).trans (by
        refine XS.aloadN X14.here hexec rfl (hb hbytes d40) rfl rfl ?_
        exact Steps.refl _)
      obtain ⟨T16, X16, q16, st16⟩ := X14.hget hexec hown (wk W (.fieldLink "java/lang/String" 9 "java/lang/String" "value" "[B")) (hy.mv X14.warmed.alike hh14).2.1 (g := (mkF m 41 #[.val (.ref x), .val (.ref y), .val (.ref y)] [.ref y, .ref t])) rfl (rest := [.ref t]) rfl (hb hbytes d41)
      have hh16 := q16.trans hh14
      have c17 : Steps p.tables e below (s₁.setTop (entryFrame m #[.ref x, .ref y] 3)) (T16.setTop (mkF m 44 #[.val (.ref x), .val (.ref y), .val (.ref y)] [.ref t', .ref t])) := c15.trans (st16 _ (Steps.refl _))
      obtain ⟨v18, T18, X18, E18, g18⟩ := X16.callS hexec (LEq.law l t V t' V') hown (wks W (staticW "java/lang/String" 541 LEq.yN)) (wk W LEq.tab) (W := 0) (Nat.le_of_ble_eq_true rfl) (Nat.le_of_ble_eq_true rfl) (Nat.le_refl _) (Nat.le_refl _) (g := (mkF m 44 #[.val (.ref x), .val (.ref y), .val (.ref y)] [.ref t', .ref t])) rfl (by rw [hml]; rfl) c17 (argsL := [.ref t, .ref t']) (rest := []) rfl rfl (by show 2 * 0 + 0 ≤ _; decide) (hb hbytes d44) (⟨rfl, hx.2.2.2.1.mv X16.warmed.alike hh16, hx.2.2.2.2.1.ty, hy.2.2.2.1.mv X16.warmed.alike hh16, hy.2.2.2.2.1.ty⟩)
      obtain ⟨v, rfl, q18, hv⟩ := E18
      have iff := Cod.eqv hx.2.2.2.2.1 hy.2.2.2.2.1 hx.2.2.2.2.2 hy.2.2.2.2.2
      rcases hv with ⟨rfl, he⟩ | ⟨rfl, he⟩
      · have c19 : Steps p.tables e below (s₁.setTop (entryFrame m #[.ref x, .ref y] 3)) (T18.setTop (mkF m 55 #[.val (.ref x), .val (.ref y), .val (.ref y)] [.int 1])) := Steps.trans g18 (by
          refine XS.ifNo X18.here hexec rfl (hb hbytes d47) rfl (i0_eq_f (by decide)) ?_
          refine iconstV X18.here hexec rfl 1 (hb hbytes d50) (by decide) ?_
          refine XS.goto X18.here hexec rfl (pc0 := 51) rfl (hb hbytes d51) (by decide) rfl ?_
          exact Steps.refl _)
        exact ⟨T18, some (.int 1), _, _, _, X18, rfl, rfl, rfl, (fun h => by cases h), ⟨1, rfl, q18.trans hh16, Or.inl ⟨rfl, iff.mp he⟩⟩, fun fs hl => c19.trans (X18.ireturnOut hexec hret rfl (Or.inr (Or.inl rfl)) (hb hbytes d55) hl)⟩
      · have c19 : Steps p.tables e below (s₁.setTop (entryFrame m #[.ref x, .ref y] 3)) (T18.setTop (mkF m 55 #[.val (.ref x), .val (.ref y), .val (.ref y)] [.int 0])) := Steps.trans g18 (by
          refine XS.ifYes X18.here hexec rfl (pc0 := 47) rfl (hb hbytes d47) rfl (i0_eq_t rfl) (by decide) rfl ?_
          refine iconstV X18.here hexec rfl 0 (hb hbytes d54) (by decide) ?_
          exact Steps.refl _)
        exact ⟨T18, some (.int 0), _, _, _, X18, rfl, rfl, rfl, (fun h => by cases h), ⟨0, rfl, q18.trans hh16, Or.inr ⟨rfl, fun q => he (iff.mpr q)⟩⟩, fun fs hl => c19.trans (X18.ireturnOut hexec hret rfl (Or.inr (Or.inl rfl)) (hb hbytes d55) hl)⟩
    · have c13 : Steps p.tables e below (s₁.setTop (entryFrame m #[.ref x, .ref y] 3)) (T11.setTop (mkF m 55 #[.val (.ref x), .val (.ref y), .val (.ref y)] [.int 0])) := c12.trans (by
        refine XS.icmpYes X11.here hexec rfl (pc0 := 33) rfl (hb hbytes d33) rfl (ii_ne_t hcd) (by decide) rfl ?_
        refine iconstV X11.here hexec rfl 0 (hb hbytes d54) (by decide) ?_
        exact Steps.refl _)
      exact ⟨T11, some (.int 0), _, _, _, X11, rfl, rfl, rfl, (fun h => by cases h), ⟨0, rfl, hh11, Or.inr ⟨rfl, Cod.dif hx.2.2.2.2.1 hy.2.2.2.2.1 hcd⟩⟩, fun fs hl => c13.trans (X11.ireturnOut hexec hret rfl (Or.inr (Or.inl rfl)) (hb hbytes d55) hl)⟩
theorem pays {l : Launch} {R : Room} {p : Program} {e : Env} {below : List Frame} {s : State} {sargs : Array Value} {len W : Nat} (x t : Addr) (V : Cell) (cd : Int32) (n : Nat) (f : Nat → Int32) (y t' : Addr) (V' : Cell) (cd' : Int32) (k : Nat) (g : Nat → Int32) (z : Int32) (htab : tab.before sargs s = true) (hfr : 2 ≤ R.frames) (hlo : W + 28 ≤ R.locals) :
    Back l R p e below s sargs yN len W (fun A₁ a₁ => A₁.cells + 0 ≤ R.cells ∧ A₁.slots + 0 ≤ R.slots ∧ P x t V cd n f y t' V' cd' k g z a₁ A₁.U) (fun A₁ _ v₁ B₁ => Says01 (SameT n f k g) v₁ A₁.U B₁.U ∧ B₁.locs = A₁.locs ++ [] ∧ B₁.cells = A₁.cells + 0 ∧ B₁.slots = A₁.slots + 0) :=
  (law l x t V cd n f y t' V' cd' k g z).pays htab hfr (by omega)
end SEq
end StrChars
namespace StrChars.Road
open Jvm Sem ClassFile Op Lib Jvm.Stand Jvm.Free Jvm.Free.XT
open Jvm.Lib.Cold (StaticIs)
/-- the words of String.equals(Object) -/
abbrev wordsEq : List Jvm.Cond := [.code SEq.yN SEq.yB 3 (some .boolean), .initialized ST, .classLink ST 10 ST, .fieldLink ST 38 ST "COMPACT_STRINGS" "Z", .fieldLink ST 15 ST "coder" "B", .fieldLink ST 9 ST "value" "[B", .methodLink ST 541 LEq.yN, .static LEq.yN, .code LEq.yN LEq.yB 3 (some .boolean), .initialized "java/lang/StringLatin1"]
theorem tabEq_of {a : Array Value} {s : State} (h : ∀ w ∈ wordsEq, w.before a s = true) : SEq.tab.before a s = true := by
  have hl : LEq.tab.before a s = true := unparts (wk h (.code LEq.yN LEq.yB 3 (some .boolean))) (wks h (.initialized LEq.yN.cls :: LEq.site))
  have q := consq hl h
  exact unparts (wk q (.code SEq.yN SEq.yB 3 (some .boolean))) (wks q (.initialized SEq.yN.cls :: SEq.site))
theorem movedEq {Z s : State} {a0 args : Array Value} (hZ : Z.Warmed39 s.vm) (hw : ∀ d ∈ wordsEq, d.before a0 Z = true) : ∀ d ∈ wordsEq, d.before args s = true := fun d hd => by
  have t : ∀ d ∈ wordsEq, (d.onTables && d.keepsFace) = true := by decide +kernel
  exact RoadKit.mv hZ (hw d hd) (t d hd)
/-- the road's facts of a String, as the laws ask it -/
theorem txt_of {Z U : State} {a0 : Array Value} {kI : Nat} (wi : (Jvm.Cond.instantiable ST kI).before a0 Z = true) (al : Z.vm.Alike U.vm) {x t : Addr} {kb : ClassId} {cs : List Int32} {cd N2 : Int32} {vs : List Value} (E : RoadKit.Exa Z U.heap x ST) (V : RoadKit.Fld Z U.heap x ST "value" "[B" (.ref t)) (C : RoadKit.Fld Z U.heap x ST "coder" "B" (.int cd)) (K : RoadKit.Arv Z U.heap t kb .byte N2 vs (.int 0)) (hc : CodA cs cd N2 vs) (hb : ∀ c ∈ cs, ¬ c < 0 ∧ ¬ (65535 : Int32) < c) (l2 : cs.length ≤ 4000) :
    ∃ A, Txt x t A cd cs.length (fun j => cs.getD j 0) U := by
  obtain ⟨A, K1, K2, K3, K4, K5, K6⟩ := K
  have hcod := hc.cod (by omega) K3 K5
  obtain ⟨D, fV, fC, hB, F1, F2, g1, g2, -, -⟩ := strObj wi al E V C
  exact ⟨A, ⟨_, hB.2.2.1, D, hB.1, rfl, by cases q : D.vm <;> first | rfl | exact absurd q (hB.2.1.2 _)⟩, Has.of hB F1 g1, Has.of hB F2 g2, ⟨K1.1, State.isArrayOf_alike al K1.2.1, K1.2.2, by rcases hcod with ⟨-, q, -⟩ | ⟨-, q, -⟩ <;> omega⟩, hcod, fun j hj => by
    have e : cs.getD j 0 = cs[j] := by simp [List.getD_eq_getElem?_getD, hj]
    show ¬ cs.getD j 0 < 0 ∧ ¬ 65535 < cs.getD j 0
    rw [e]; exact hb _ (List.getElem_mem _)⟩
theorem same_list (cs ds : List Int32) : SameT cs.length (fun j => cs.getD j 0) ds.length (fun j => ds.getD j 0) ↔ cs = ds := by
  constructor
  · rintro ⟨e, q⟩
    refine List.ext_getElem e fun j h1 h2 => ?_
    have := q j h1
    simpa [List.getD_eq_getElem?_getD, h1, h2] using this
  · rintro rfl
    exact ⟨rfl, fun _ _ => rfl⟩
/-- **equals(Object) OF TWO SUCH STRINGS**: 1 just where the chars are the same -/
theorem eqW {p : Program} {l : Launch} {e : Env} {R : Room} {s : State} {args : Array Value} {below : List Frame} {len W : Nat} {Z : State} {a0 : Array Value} {h : Heap} (hZ : Z.Warmed39 s.vm) (hw : ∀ d ∈ wordsEq, d.before a0 Z = true) {kI : Nat} (wi : (Jvm.Cond.instantiable ST kI).before a0 Z = true)
    {x t : Addr} {kb : ClassId} {cs : List Int32} {cd N2 : Int32} {vs : List Value} (E : RoadKit.Exa Z h x ST) (V : RoadKit.Fld Z h x ST "value" "[B" (.ref t)) (C : RoadKit.Fld Z h x ST "coder" "B" (.int cd)) (K : RoadKit.Arv Z h t kb .byte N2 vs (.int 0)) (hc : CodA cs cd N2 vs) (hb : ∀ c ∈ cs, ¬ c < 0 ∧ ¬ (65535 : Int32) < c) (l2 : cs.length ≤ 4000)
    {y t' : Addr} {kb' : ClassId} {ds : List Int32} {cd' N2' : Int32} {vs' : List Value} (E' : RoadKit.Exa Z h y ST) (V' : RoadKit.Fld Z h y ST "value" "[B" (.ref t')) (C' : RoadKit.Fld Z h y ST "coder" "B" (.int cd')) (K' : RoadKit.Arv Z h t' kb' .byte N2' vs' (.int 0)) (hc' : CodA ds cd' N2' vs') (hb' : ∀ c ∈ ds, ¬ c < 0 ∧ ¬ (65535 : Int32) < c) (l2' : ds.length ≤ 4000)
    {z : Int32} (S : RoadKit.Sta Z h ST "COMPACT_STRINGS" "Z" (.int z)) (hz : ¬ z = 0) (hfr : 2 ≤ R.frames) (hlo : W + 28 ≤ R.locals) :
    Back l R p e below s args (⟨"java/lang/String", "equals", "(Ljava/lang/Object;)Z"⟩ : MethodName) len W (fun P a => a = #[.ref x, .ref y] ∧ P.U.heap = h ∧ P.cells + 0 ≤ R.cells ∧ P.slots + 0 ≤ R.slots)
      (fun P _ v B => ∃ L, (((v = some (.int 1) ∧ cs = ds) ∨ (v = some (.int 0) ∧ ¬ cs = ds)) ∧ L = [] ∧ B.U.heap = h) ∧ B.locs = P.locs ++ L ∧ B.cells = P.cells + 0 ∧ B.slots = P.slots + 0) := by
  intro m meth c P g ig mk a X hg hsize hdg hW hn hp'
  obtain ⟨rfl, rfl, r1, r2⟩ := hp'
  have al : Z.vm.Alike P.U.vm := hZ.alike.trans X.warmed.alike
  obtain ⟨A, hx⟩ := txt_of wi al E V C K hc hb l2
  obtain ⟨A', hy⟩ := txt_of wi al E' V' C' K' hc' hb' l2'
  obtain ⟨v, B, X', ⟨⟨w, hv, hh, hq⟩, hl, hk, hs⟩, st⟩ := SEq.pays x t A cd cs.length (fun j => cs.getD j 0) y t' A' cd' ds.length (fun j => ds.getD j 0) z (tabEq_of (movedEq hZ hw)) hfr hlo m meth c P g ig mk _ X hg hsize hdg hW hn ⟨r1, r2, rfl, hx, hy, sta_is al S, hz⟩
  refine ⟨v, B, X', ⟨[], ⟨?_, rfl, hh⟩, hl, hk, hs⟩, st⟩
  rcases hq with ⟨rfl, q⟩ | ⟨rfl, q⟩
  · exact Or.inl ⟨hv, (same_list cs ds).mp q⟩
  · exact Or.inr ⟨hv, fun e => q ((same_list cs ds).mpr e)⟩
end StrChars.Road
namespace StrChars.Road
open Jvm Sem ClassFile Op Lib Jvm.Stand Jvm.Free Jvm.Free.XT
open Jvm.Lib.Cold (StaticIs)
/-- what backV says of its String, as the contracts of this text ask it: cs's low bytes, coder 0 -/
theorem codOf {cs : List Int32} {n : Nat} (hn : cs.length = n) (hb : ∀ c ∈ cs, ¬ 255 < c) : CodA cs 0 (Int32.ofNat n) ((cs.map lo8).map Value.int) := Or.inl ⟨rfl, by rw [hn], by simp [List.map_map, Function.comp_def], hb⟩
end StrChars.Road
end Jvm.Pilot.@@N@@
namespace Jvm.Pilot.@@N@@
open Jvm Jvm.ClassFile Sem Op Lib Jvm.Free Jvm.Stand Jvm.LawKit Jvm.RoadKit Bundle Jvm.Pilot.@@N@@.Jvm.D
/-! from A on the run returns, and F holds of the end -/
def own_Goes (p : Program) (e : Env) (below : List Frame) (F : State → Outcome → Prop) (A : State) : Prop := ∃ s₂ o, Steps p.tables e below A s₂ ∧ s₂.status = .running ∧ Ended s₂ below o ∧ F s₂ o
/-- the narrow end: Q of what it returned, of the heap and of the places written; the frame -/
def own_FN (s : State) (Q : Option Value → Heap → List Loc → Prop) (k n : Nat) : State → Outcome → Prop := fun s₂ o => ∃ v L, o = .returned v ∧ Q v s₂.heap L ∧ FrameEnd s o s₂ L k n
section OwnGoes
variable {p : Program} {l : Launch} {e : Env} {R : Room} {s : State} {m : MethodId} {args : Array Value} {below : List Frame} {meth : Method} {c : Code} {T : State} {locs : List Loc} {cells slots : Nat} {Q : Option Value → Heap → List Loc → Prop} {k n : Nat} {F : State → Outcome → Prop}
theorem own_to {A B : State} (h : ∀ t, Steps p.tables e below B t → Steps p.tables e below A t) (g : own_Goes p e below F B) : own_Goes p e below F A := by
  obtain ⟨s₂, o, h1, r⟩ := g
  exact ⟨s₂, o, h _ h1, r⟩
theorem own_tr {A B : State} (h : Steps p.tables e below A B) (g : own_Goes p e below F B) : own_Goes p e below F A := own_to (fun t q => h.trans q) g
/-! the shapes of a step: what lies on the stack and in the locals behind it -/
theorem own_tp {T' : State} {pc : Nat} {L : Array Slot} {S : List Value} (w : Value) (pc' : Nat) (h : ∀ t, Steps p.tables e below (T'.setTop (mkF m pc' L (w :: S))) t → Steps p.tables e below (T.setTop (mkF m pc L S)) t) (g : own_Goes p e below F (T'.setTop (mkF m pc' L (w :: S)))) : own_Goes p e below F (T.setTop (mkF m pc L S)) := own_to h g
theorem own_t1 {T' : State} {pc : Nat} {L : Array Slot} {S : List Value} {x : Value} (w : Value) (pc' : Nat) (h : ∀ t, Steps p.tables e below (T'.setTop (mkF m pc' L (w :: S))) t → Steps p.tables e below (T.setTop (mkF m pc L (x :: S))) t) (g : own_Goes p e below F (T'.setTop (mkF m pc' L (w :: S)))) : own_Goes p e below F (T.setTop (mkF m pc L (x :: S))) := own_to h g
theorem own_t2 {T' : State} {pc : Nat} {L : Array Slot} {S : List Value} {x y : Value} (w : Value) (pc' : Nat) (h : ∀ t, Steps p.tables e below (T'.setTop (mkF m pc' L (w :: S))) t → Steps p.tables e below (T.setTop (mkF m pc L (x :: y :: S))) t) (g : own_Goes p e below F (T'.setTop (mkF m pc' L (w :: S)))) : own_Goes p e below F (T.setTop (mkF m pc L (x :: y :: S))) := own_to h g
theorem own_d0 {T' : State} {pc : Nat} {L : Array Slot} {S : List Value} (pc' : Nat) (h : ∀ t, Steps p.tables e below (T'.setTop (mkF m pc' L S)) t → Steps p.tables e below (T.setTop (mkF m pc L S)) t) (g : own_Goes p e below F (T'.setTop (mkF m pc' L S))) : own_Goes p e below F (T.setTop (mkF m pc L S)) := own_to h g
theorem own_d1 {T' : State} {pc : Nat} {L : Array Slot} {S : List Value} {x : Value} (pc' : Nat) (h : ∀ t, Steps p.tables e below (T'.setTop (mkF m pc' L S)) t → Steps p.tables e below (T.setTop (mkF m pc L (x :: S))) t) (g : own_Goes p e below F (T'.setTop (mkF m pc' L S))) : own_Goes p e below F (T.setTop (mkF m pc L (x :: S))) := own_to h g
theorem own_d2 {T' : State} {pc : Nat} {L : Array Slot} {S : List Value} {x y : Value} (pc' : Nat) (h : ∀ t, Steps p.tables e below (T'.setTop (mkF m pc' L S)) t → Steps p.tables e below (T.setTop (mkF m pc L (x :: y :: S))) t) (g : own_Goes p e below F (T'.setTop (mkF m pc' L S))) : own_Goes p e below F (T.setTop (mkF m pc L (x :: y :: S))) := own_to h g
theorem own_cs {T' : State} {pc : Nat} {L : Array Slot} {S : List Value} (S' : List Value) (pc' : Nat) (h : ∀ t, Steps p.tables e below (T'.setTop (mkF m pc' L S')) t → Steps p.tables e below (T.setTop (mkF m pc L S)) t) (g : own_Goes p e below F (T'.setTop (mkF m pc' L S'))) : own_Goes p e below F (T.setTop (mkF m pc L S)) := own_to h g
theorem own_csR {T' : State} {pc : Nat} {L : Array Slot} {S : List Value} (S' : List Value) (pc' : Nat) (h : Steps p.tables e below (T.setTop (mkF m pc L S)) (T'.setTop (mkF m pc' L S'))) (g : own_Goes p e below F (T'.setTop (mkF m pc' L S'))) : own_Goes p e below F (T.setTop (mkF m pc L S)) := own_tr h g
theorem own_ls {T' : State} {pc : Nat} {L : Array Slot} {S : List Value} {x : Value} (L' : Array Slot) (pc' : Nat) (h : ∀ t, Steps p.tables e below (T'.setTop (mkF m pc' L' S)) t → Steps p.tables e below (T.setTop (mkF m pc L (x :: S))) t) (g : own_Goes p e below F (T'.setTop (mkF m pc' L' S))) : own_Goes p e below F (T.setTop (mkF m pc L (x :: S))) := own_to h g
theorem own_li {T' : State} {pc : Nat} {L : Array Slot} {S : List Value} (L' : Array Slot) (pc' : Nat) (h : ∀ t, Steps p.tables e below (T'.setTop (mkF m pc' L' S)) t → Steps p.tables e below (T.setTop (mkF m pc L S)) t) (g : own_Goes p e below F (T'.setTop (mkF m pc' L' S))) : own_Goes p e below F (T.setTop (mkF m pc L S)) := own_to h g
theorem own_start {A B : State} (h : ∀ t, Steps p.tables e below B t → Steps p.tables e below A t) (g : own_Goes p e below (own_FN s Q k n) B) :
    ∃ s₂ o, Steps p.tables e below A s₂ ∧ s₂.status = .running ∧ Ended s₂ below o ∧ ∃ v L, o = .returned v ∧ Q v s₂.heap L ∧ FrameEnd s o s₂ L k n := own_to h g
theorem own_retN (X : Stand p l e R s m args below meth c T locs cells slots) (hx : p.tables.exec = Jvm.exec) {pc : Nat} {Ls : Array Slot} {z : Int32} {t : FieldType} {rest : List Value} (hret : meth.sig.returnType = some t)
    (hd : decode c.code pc = .ok (.ireturn, 1)) (ht : t = .boolean ∨ t = .byte ∨ t = .char ∨ t = .short) (hlk : meth.locks = false) (hk : cells ≤ k) (hn : slots ≤ n) {h : Heap} (eT : T.heap = h) (hQ : Q (some (.int (nar t z))) h locs) :
    own_Goes p e below (own_FN s Q k n) (T.setTop (mkF m pc Ls (.int z :: rest))) := by
  obtain ⟨fs, hr, hrun, hended, hW, hsame⟩ := X.leave (v := some (.int (nar t z))) (fun q => by rw [hret] at q; cases q) hlk
  subst eT
  exact ⟨_, _, retN X hx hret ht hd hr, hrun, hended, _, _, rfl, hQ, ⟨_, rfl⟩, hW, hsame.mono hk hn⟩
theorem own_retI (X : Stand p l e R s m args below meth c T locs cells slots) (hx : p.tables.exec = Jvm.exec) {pc : Nat} {Ls : Array Slot} {z : Int32} {rest : List Value} (hret : meth.sig.returnType = some .int)
    (hd : decode c.code pc = .ok (.ireturn, 1)) (hlk : meth.locks = false) (hk : cells ≤ k) (hn : slots ≤ n) {h : Heap} (eT : T.heap = h) (hQ : Q (some (.int z)) h locs) :
    own_Goes p e below (own_FN s Q k n) (T.setTop (mkF m pc Ls (.int z :: rest))) := by
  obtain ⟨fs, hr, hrun, hended, hW, hsame⟩ := X.leave (v := some (.int z)) (fun q => by rw [hret] at q; cases q) hlk
  subst eT
  exact ⟨_, _, retOut X hx hret rfl (Or.inl ⟨rfl, Or.inl rfl, z, rfl⟩) hd hr, hrun, hended, _, _, rfl, hQ, ⟨_, rfl⟩, hW, hsame.mono hk hn⟩
theorem own_retJ (X : Stand p l e R s m args below meth c T locs cells slots) (hx : p.tables.exec = Jvm.exec) {pc : Nat} {Ls : Array Slot} {z : Int64} {rest : List Value} (hret : meth.sig.returnType = some .long)
    (hd : decode c.code pc = .ok (.lreturn, 1)) (hlk : meth.locks = false) (hk : cells ≤ k) (hn : slots ≤ n) {h : Heap} (eT : T.heap = h) (hQ : Q (some (.long z)) h locs) :
    own_Goes p e below (own_FN s Q k n) (T.setTop (mkF m pc Ls (.long z :: rest))) := by
  obtain ⟨fs, hr, hrun, hended, hW, hsame⟩ := X.leave (v := some (.long z)) (fun q => by rw [hret] at q; cases q) hlk
  subst eT
  exact ⟨_, _, retOut X hx hret rfl (Or.inr (Or.inl ⟨rfl, rfl, z, rfl⟩)) hd hr, hrun, hended, _, _, rfl, hQ, ⟨_, rfl⟩, hW, hsame.mono hk hn⟩
theorem own_nref {t : FieldType} {w : Value} (ht : t.isReference = true) : narrow t w = w := by cases t <;> first | rfl | (exact Bool.noConfusion ht)
theorem own_fits {t : FieldType} {w : Value} (ht : t.isReference = true) (hw : w.isRef = true) : fits t w = true := by
  cases t <;> first | (exact Bool.noConfusion ht) | (cases w <;> first | rfl | (exact Bool.noConfusion hw))
theorem own_retR (X : Stand p l e R s m args below meth c T locs cells slots) (hx : p.tables.exec = Jvm.exec) {pc : Nat} {Ls : Array Slot} {w : Value} {t : FieldType} {rest : List Value} (hret : meth.sig.returnType = some t)
    (hd : decode c.code pc = .ok (.areturn, 1)) (ht : t.isReference = true) (hw : w.isRef = true) (hlk : meth.locks = false) (hk : cells ≤ k) (hn : slots ≤ n) {h : Heap} (eT : T.heap = h) (hQ : Q (some w) h locs) :
    own_Goes p e below (own_FN s Q k n) (T.setTop (mkF m pc Ls (w :: rest))) := by
  obtain ⟨fs, hr, hrun, hended, hW, hsame⟩ := X.leave (v := some w) (fun q => by rw [hret] at q; cases q) hlk
  subst eT
  exact ⟨_, _, retOut X hx hret (own_nref ht) (Or.inr (Or.inr (Or.inr (Or.inr ⟨rfl, ht, hw⟩)))) hd hr, hrun, hended, _, _, rfl, hQ, ⟨_, rfl⟩, hW, hsame.mono hk hn⟩
theorem own_retV (X : Stand p l e R s m args below meth c T locs cells slots) (hx : p.tables.exec = Jvm.exec) {pc : Nat} {Ls : Array Slot} (hret : meth.sig.returnType = none)
    (hd : decode c.code pc = .ok (.return_, 1)) (hlk : meth.locks = false) (hk : cells ≤ k) (hn : slots ≤ n) {h : Heap} (eT : T.heap = h) (hQ : Q none h locs) :
    own_Goes p e below (own_FN s Q k n) (T.setTop (mkF m pc Ls [])) := by
  obtain ⟨fs, hr, hrun, hended, hW, hsame⟩ := X.leave (v := none) (fun _ => rfl) hlk
  subst eT
  exact ⟨_, _, X.returnOut hx hret hd hr, hrun, hended, _, _, rfl, hQ, ⟨_, rfl⟩, hW, hsame.mono hk hn⟩
end OwnGoes

/-- a body's contract, in lawnew's form -/
abbrev own_Met (l : Launch) (y : MethodName) (bytes : ByteArray) (ml : Nat) (rt : Option FieldType) (ws : List Jvm.Cond) (rm : Room) (Z : State) (as' : Array Value) (h0 : Heap) (Q : Option Value → Heap → List Loc → Prop) : Prop :=
  MetFree l y (head1 (Jvm.Cond.code y bytes ml rt :: ws) rm) (fun a U => a = as' ∧ Z.Warmed39 U.vm ∧ U.heap = h0) (fun _ _ _ _ _ => True) (fun _ U o U' => ∃ v L, o = .returned v ∧ Q v U'.heap L ∧ FrameEnd U o U' L rm.cells rm.slots)
theorem own_enter {l : Launch} {y : MethodName} {bytes : ByteArray} {ml : Nat} {rt : Option FieldType} {ws : List Jvm.Cond} {rm : Room} {Z : State} {as' : Array Value} {h0 : Heap} {Q : Option Value → Heap → List Loc → Prop} (L0 : Array Slot) (hp : plainFor y = true) (ef : ∀ m, entryFrame m as' ml = mkF m 0 L0 [])
    (go : ∀ (p : Program) (e : Env) (s : State) (m : MethodId) (below : List Frame) (meth : Method) (c : Code) (s₁ : State), p.tables.exec = Jvm.exec → c.code = bytes → c.maxLocals = ml → s.vm.findClass y.cls = some m.cls → meth.name = y.name → Z.Warmed39 s.vm → meth.sig.returnType = rt → meth.locks = false → Stand p l e rm s m as' below meth c s₁ [] 0 0 → s₁.heap = h0 → own_Goes p e below (own_FN s Q rm.cells rm.slots) (s₁.setTop (mkF m 0 L0 []))) :
    own_Met l y bytes ml rt ws rm Z as' h0 Q := by
  refine MetFree.of_bodySF hp hisR ?_
  intro p e s m args below meth c s₁ Bd hml0 hP hK
  obtain ⟨rfl, hZ, hh⟩ := hP
  have g := go p e s m below meth c s₁ Bd.exec Bd.bytes hml0 (findClass_of_methodNamed Bd.named) (name_of_methodNamed Bd.named Bd.method).1 hZ Bd.returns Bd.notSynchronized (Stand.of_body Bd) (by rw [← hh, Bd.state]; rfl)
  exact own_start (fun t k => castTop (ef m) k) g

theorem own_cat1 {x : Value} (h : x.isRef = true) : x.category = 1 := by cases x <;> first | rfl | exact Bool.noConfusion h
theorem own_catI (z : Int32) : (Value.int z).category = 1 := rfl
theorem own_catJ (z : Int64) : (Value.long z).category = 2 := rfl
theorem own_catR (z : Addr) : (Value.ref z).category = 1 := rfl
def Q0 (h0 : Heap) (n0 : Nat) (v : Option Value) (h : Heap) (L : List Loc) : Prop := v = some (.int 1) ∧ Fr n0 L
/-! the wide end: String constants may have been loaded meanwhile -/
def own_FW (Z : State) (EL : List (String × Nat)) (s : State) (h0 : Heap) (Q : Option Value → Heap → List Loc → Prop) (k n : Nat) : State → Outcome → Prop :=
  fun s₂ o => ∃ v L, o = .returned v ∧ Q v s₂.heap L ∧ CHr Z EL s.vm h0 s₂.vm s₂.heap ∧ ReturnedEndW s o s₂ L k n
/-- what a wide walk bears along, at the tables vm0 and the heap h -/
def own_Wd (Z : State) (a0 : Array Value) (EL : List (String × Nat)) (s : State) (h0 : Heap) (vm0 : Vm) (h : Heap) : Prop :=
  ∃ k0, s.Since vm0 k0 ∧ k0 ≤ h.size ∧ Z.Warmed39 vm0 ∧ EW Z a0 EL ∧ CHr Z EL s.vm h0 vm0 h
section OwnWide
variable {p : Program} {l : Launch} {e : Env} {R : Room} {s : State} {m : MethodId} {args : Array Value} {below : List Frame} {meth : Method} {c : Code} {T : State} {locs : List Loc} {cells slots : Nat} {Q : Option Value → Heap → List Loc → Prop} {k n : Nat}
variable {Z : State} {a0 : Array Value} {EL : List (String × Nat)} {h0 h h' : Heap} {vm0 vm1 : Vm}
theorem own_Wd.start (hZ : Z.Warmed39 s.vm) (hE : EW Z a0 EL) (hC : CHv Z EL s.vm h0) : own_Wd Z a0 EL s h0 s.vm h0 := ⟨0, (State.WarmedH.refl s).since 0, Nat.zero_le _, hZ, hE, CHr.refl hC⟩
theorem own_Wd.hZ (W : own_Wd Z a0 EL s h0 vm0 h) : Z.Warmed39 vm0 := by obtain ⟨_, _, _, q, _⟩ := W; exact q
theorem own_Wd.hE (W : own_Wd Z a0 EL s h0 vm0 h) : EW Z a0 EL := by obtain ⟨_, _, _, _, q, _⟩ := W; exact q
theorem own_Wd.chr (W : own_Wd Z a0 EL s h0 vm0 h) : CHr Z EL s.vm h0 vm0 h := by obtain ⟨_, _, _, _, _, q⟩ := W; exact q
theorem own_Wd.chv (W : own_Wd Z a0 EL s h0 vm0 h) : CHv Z EL vm0 h := W.chr.1
theorem own_Wd.ext (W : own_Wd Z a0 EL s h0 vm0 h) (E : Ext h h') : own_Wd Z a0 EL s h0 vm0 h' := by
  obtain ⟨k0, a, b, c, d, q⟩ := W
  exact ⟨k0, a, Nat.le_trans b E.1, c, d, q.trans (CHr.ext E q.1)⟩
theorem own_Wd.wr {a : Addr} {sl : Nat} {v : Value} (W : own_Wd Z a0 EL s h0 vm0 h) (w : Wr h h' a sl v) (S : Safe Z EL vm0 h a) : own_Wd Z a0 EL s h0 vm0 h' := by
  obtain ⟨k0, a, b, c, d, q⟩ := W
  exact ⟨k0, a, Nat.le_trans b (Nat.le_of_eq w.size.symm), c, d, q.trans (CHr.wr w S q.1)⟩
theorem own_Wd.keep {ws : List Addr} (W : own_Wd Z a0 EL s h0 vm0 h) (K : Keep h h' ws) (hs : ∀ x ∈ ws, Safe Z EL vm0 h x) : own_Wd Z a0 EL s h0 vm0 h' := by
  obtain ⟨k0, a, b, c, d, q⟩ := W
  exact ⟨k0, a, Nat.le_trans b K.1, c, d, q.trans (CHr.keep K hs q.1)⟩
theorem own_Wd.call {U : State} (W : own_Wd Z a0 EL s h0 vm0 h) (hS : (s.setVm vm0).Since U.vm U.heap.size) (C : CHr Z EL vm0 h U.vm U.heap) : own_Wd Z a0 EL s h0 U.vm U.heap := by
  obtain ⟨k0, a, b, c, d, q⟩ := W
  exact ⟨_, a.trans hS (Nat.le_trans b C.2.1), Nat.le_refl _, State.Warmed39.trans (t := s.setVm vm0) c hS.1, d, q.trans C⟩
theorem own_since_own {own : String} {U : State} {c : ClassId} (hS : (s.setVm vm0).Since U.vm n) (hown : vm0.findClass own = some c) : U.vm.findClass own = some c := (hS.1.alike.findClass _ _).trans hown
theorem own_startW {A B : State} (hh : s.heap = h0) (g1 : ∀ t, Steps p.tables e below B t → Steps p.tables e below A t) (g : own_Goes p e below (own_FW Z EL s h0 Q k n) B) :
    ∃ s₂ o, Steps p.tables e below A s₂ ∧ s₂.status = .running ∧ Ended s₂ below o ∧ ∃ v L, o = .returned v ∧ Q v s₂.heap L ∧ CHr Z EL s.vm s.heap s₂.vm s₂.heap ∧ ReturnedEndW s o s₂ L k n := by
  subst hh; exact own_to g1 g
theorem own_REW {s t : State} {o : Outcome} {L : List Loc} {k k' n n' : Nat} (h : ReturnedEndW s o t L k n) (hk : k ≤ k') (hn : n ≤ n') : ReturnedEndW s o t L k' n' := ⟨h.1, h.2.1, h.2.2.1, h.2.2.2.mono hk hn⟩
theorem own_leaveW (X : Stand p l e R (s.setVm vm0) m args below meth c T locs cells slots) (eT : T.heap = h) (W : own_Wd Z a0 EL s h0 vm0 h) (hlk : meth.locks = false) (hk : cells ≤ k) (hn : slots ≤ n) {v : Option Value} (hv : meth.sig.returnType = none → v = none) (hQ : Q v h locs) :
    ∃ fs, (∀ (f : JFrame) (acts : List Action), f.method = m → f.locked = none → f.entered = [] → (doReturn e (T.setTop f) acts v).1 = T.setFrames fs) ∧ (T.setFrames fs).status = .running ∧ Ended (T.setFrames fs) below (.returned v) ∧ own_FW Z EL s h0 Q k n (T.setFrames fs) (.returned v) := by
  subst eT
  obtain ⟨k0, hS, hk0, hZ, hE, hC⟩ := W
  obtain ⟨fs, h1, h2, h3, h4⟩ := X.leaveW hS hk0 hv hlk
  exact ⟨fs, h1, h2, h3, v, locs, rfl, hQ, hC.trans (show CHr Z EL vm0 T.heap T.vm T.heap from CHv.at X hZ hE hC.1), own_REW h4 hk hn⟩
theorem own_retNW (X : Stand p l e R (s.setVm vm0) m args below meth c T locs cells slots) (hx : p.tables.exec = Jvm.exec) {pc : Nat} {Ls : Array Slot} {z : Int32} {t : FieldType} {rest : List Value} (hret : meth.sig.returnType = some t)
    (hd : decode c.code pc = .ok (.ireturn, 1)) (ht : t = .boolean ∨ t = .byte ∨ t = .char ∨ t = .short) (hlk : meth.locks = false) (hk : cells ≤ k) (hn : slots ≤ n) (eT : T.heap = h) (W : own_Wd Z a0 EL s h0 vm0 h) (hQ : Q (some (.int (nar t z))) h locs) :
    own_Goes p e below (own_FW Z EL s h0 Q k n) (T.setTop (mkF m pc Ls (.int z :: rest))) := by
  obtain ⟨fs, hr, hrun, hended, hF⟩ := own_leaveW X eT W hlk hk hn (v := some (.int (nar t z))) (fun q => by rw [hret] at q; cases q) hQ
  exact ⟨_, _, retN X hx hret ht hd hr, hrun, hended, hF⟩
theorem own_retIW (X : Stand p l e R (s.setVm vm0) m args below meth c T locs cells slots) (hx : p.tables.exec = Jvm.exec) {pc : Nat} {Ls : Array Slot} {z : Int32} {rest : List Value} (hret : meth.sig.returnType = some .int)
    (hd : decode c.code pc = .ok (.ireturn, 1)) (hlk : meth.locks = false) (hk : cells ≤ k) (hn : slots ≤ n) (eT : T.heap = h) (W : own_Wd Z a0 EL s h0 vm0 h) (hQ : Q (some (.int z)) h locs) :
    own_Goes p e below (own_FW Z EL s h0 Q k n) (T.setTop (mkF m pc Ls (.int z :: rest))) := by
  obtain ⟨fs, hr, hrun, hended, hF⟩ := own_leaveW X eT W hlk hk hn (v := some (.int z)) (fun q => by rw [hret] at q; cases q) hQ
  exact ⟨_, _, retOut X hx hret rfl (Or.inl ⟨rfl, Or.inl rfl, z, rfl⟩) hd hr, hrun, hended, hF⟩
theorem own_retRW (X : Stand p l e R (s.setVm vm0) m args below meth c T locs cells slots) (hx : p.tables.exec = Jvm.exec) {pc : Nat} {Ls : Array Slot} {w : Value} {t : FieldType} {rest : List Value} (hret : meth.sig.returnType = some t)
    (hd : decode c.code pc = .ok (.areturn, 1)) (ht : t.isReference = true) (hw : w.isRef = true) (hlk : meth.locks = false) (hk : cells ≤ k) (hn : slots ≤ n) (eT : T.heap = h) (W : own_Wd Z a0 EL s h0 vm0 h) (hQ : Q (some w) h locs) :
    own_Goes p e below (own_FW Z EL s h0 Q k n) (T.setTop (mkF m pc Ls (w :: rest))) := by
  obtain ⟨fs, hr, hrun, hended, hF⟩ := own_leaveW X eT W hlk hk hn (v := some w) (fun q => by rw [hret] at q; cases q) hQ
  exact ⟨_, _, retOut X hx hret (own_nref ht) (Or.inr (Or.inr (Or.inr (Or.inr ⟨rfl, ht, hw⟩)))) hd hr, hrun, hended, hF⟩
theorem own_retVW (X : Stand p l e R (s.setVm vm0) m args below meth c T locs cells slots) (hx : p.tables.exec = Jvm.exec) {pc : Nat} {Ls : Array Slot} (hret : meth.sig.returnType = none)
    (hd : decode c.code pc = .ok (.return_, 1)) (hlk : meth.locks = false) (hk : cells ≤ k) (hn : slots ≤ n) (eT : T.heap = h) (W : own_Wd Z a0 EL s h0 vm0 h) (hQ : Q none h locs) :
    own_Goes p e below (own_FW Z EL s h0 Q k n) (T.setTop (mkF m pc Ls [])) := by
  obtain ⟨fs, hr, hrun, hended, hF⟩ := own_leaveW X eT W hlk hk hn (v := none) (fun _ => rfl) hQ
  exact ⟨_, _, X.returnOut hx hret hd hr, hrun, hended, hF⟩
/-- ldc of a constant whose text is known -/
theorem own_ldc (X : Stand p l e R (s.setVm vm0) m args below meth c T locs cells slots) (hx : p.tables.exec = Jvm.exec) (W : own_Wd Z a0 EL s h0 vm0 h) {own text : String} {index : Nat} (hown : vm0.findClass own = some m.cls) (w : (Cond.stringLink own index text).before a0 Z = true) (wS : ∀ a ∈ Bundle.stringAtoms, a.before a0 Z = true)
    (eT : T.heap = h) (hmem : (own, index) ∈ EL) {vs : List Value} {z : Int32} (ht : (∀ c ∈ text.toList, c.toNat < 256) ∧ text.toList.map (fun c => Value.int (Jvm.Lit.byteI c.toNat.toUInt16)) = vs) (hz : ¬ z < 0) (hl : z.toNatClampNeg = vs.length)
    {g : JFrame} (hg : g.method = m) (hd : decode c.code g.pc = .ok (.ldc index, 2)) {n : Nat} (hn : 4 * text.toList.length ≤ n) (hbig : n ≤ 536870912) (hc : cells + 2 ≤ R.cells) (hl' : slots + (n + 4) ≤ R.slots) :
    ∃ (a : Addr) (T' : State) (h' : Heap) (b : Addr) (k : ClassId), Stand p l e R (s.setVm T'.vm) m args below meth c T' locs (cells + 2) (slots + (n + 4)) ∧ T'.heap = h' ∧ Ext h h' ∧ own_Wd Z a0 EL s h0 T'.vm h' ∧ T'.vm.findClass own = some m.cls ∧
      Exa Z h' a "java/lang/String" ∧ Fld Z h' a "java/lang/String" "coder" "B" (.int 0) ∧ Fld Z h' a "java/lang/String" "value" "[B" (.ref b) ∧ Arv Z h' b k .byte z vs (.int 0) ∧ CHr Z EL vm0 h T'.vm h' ∧ (∀ x, Safe Z EL T'.vm h' x → x ≠ a ∧ x ≠ b) ∧
      ∀ target, Steps p.tables e below (T'.setTop { g with pc := g.pc + 2, stack := .ref a :: g.stack }) target → Steps p.tables e below (T.setTop g) target := by
  obtain ⟨k0, hS, hk0, hZ, hE, hC⟩ := W
  obtain ⟨a, T', h', k1, b, k, r1, r2, r3, r4, r5, r6, r7, r8, r9, r10, r11, -, -, r14, -, r16, r17⟩ := ldcCH X hx hZ hown w wS eT hS hk0 hE hmem hC.1 ht hz hl hg hd hn hbig hc hl'
  exact ⟨a, T', h', b, k, r1, r2, r3, ⟨k1, r4, r5, r6, hE, hC.trans r14⟩, r7, r8, r9, r10, r11, r14, r16, r17⟩
/-- ldc of a constant whose text isn't asked -/
theorem own_ldcO (X : Stand p l e R (s.setVm vm0) m args below meth c T locs cells slots) (hx : p.tables.exec = Jvm.exec) (W : own_Wd Z a0 EL s h0 vm0 h) {own text : String} {index : Nat} (hown : vm0.findClass own = some m.cls) (w : (Cond.stringLink own index text).before a0 Z = true) (wS : ∀ a ∈ Bundle.stringAtoms, a.before a0 Z = true)
    (eT : T.heap = h) {g : JFrame} (hg : g.method = m) (hd : decode c.code g.pc = .ok (.ldc index, 2)) {n : Nat} (hn : 4 * text.toList.length ≤ n) (hbig : n ≤ 536870912) (hc : cells + 2 ≤ R.cells) (hl' : slots + (n + 4) ≤ R.slots) :
    ∃ (a : Addr) (T' : State) (h' : Heap), Stand p l e R (s.setVm T'.vm) m args below meth c T' locs (cells + 2) (slots + (n + 4)) ∧ T'.heap = h' ∧ Ext h h' ∧ own_Wd Z a0 EL s h0 T'.vm h' ∧ T'.vm.findClass own = some m.cls ∧ CHr Z EL vm0 h T'.vm h' ∧
      ∀ target, Steps p.tables e below (T'.setTop { g with pc := g.pc + 2, stack := .ref a :: g.stack }) target → Steps p.tables e below (T.setTop g) target := by
  obtain ⟨k0, hS, hk0, hZ, hE, hC⟩ := W
  obtain ⟨a, T', h', k1, r1, r2, r3, r4, r5, r6, r7, r8, -, r9⟩ := ldcOH X hx hZ hown w wS eT hS hk0 hE hC.1 hg hd hn hbig hc hl'
  exact ⟨a, T', h', r1, r2, r3, ⟨k1, r4, r5, r6, hE, hC.trans r8⟩, r7, r8, r9⟩
end OwnWide
/-- a body's contract where String constants may be loaded -/
abbrev own_MetW (EL : List (String × Nat)) (l : Launch) (y : MethodName) (bytes : ByteArray) (ml : Nat) (rt : Option FieldType) (ws : List Jvm.Cond) (rm : Room) (Z : State) (as' : Array Value) (h0 : Heap) (Q : Option Value → Heap → List Loc → Prop) : Prop :=
  MetFree l y (head1 (Jvm.Cond.code y bytes ml rt :: ws) rm) (fun a U => a = as' ∧ Z.Warmed39 U.vm ∧ U.heap = h0 ∧ CHv Z EL U.vm h0) (fun _ _ _ _ _ => True) (fun _ U o U' => ∃ v L, o = .returned v ∧ Q v U'.heap L ∧ CHr Z EL U.vm U.heap U'.vm U'.heap ∧ ReturnedEndW U o U' L rm.cells rm.slots)
theorem own_enterW {EL : List (String × Nat)} {l : Launch} {y : MethodName} {bytes : ByteArray} {ml : Nat} {rt : Option FieldType} {ws : List Jvm.Cond} {rm : Room} {Z : State} {as' : Array Value} {h0 : Heap} {Q : Option Value → Heap → List Loc → Prop} (L0 : Array Slot) (hp : plainFor y = true) (ef : ∀ m, entryFrame m as' ml = mkF m 0 L0 []) {a0 : Array Value} (hE : EW Z a0 EL)
    (go : ∀ (p : Program) (e : Env) (s : State) (m : MethodId) (below : List Frame) (meth : Method) (c : Code) (s₁ : State), p.tables.exec = Jvm.exec → c.code = bytes → c.maxLocals = ml → (s.setVm s.vm).vm.findClass y.cls = some m.cls → meth.name = y.name → Z.Warmed39 (s.setVm s.vm).vm → meth.sig.returnType = rt → meth.locks = false → Stand p l e rm (s.setVm s.vm) m as' below meth c s₁ [] 0 0 → s₁.heap = h0 → own_Wd Z a0 EL s h0 s.vm h0 → own_Goes p e below (own_FW Z EL s h0 Q rm.cells rm.slots) (s₁.setTop (mkF m 0 L0 []))) :
    own_MetW EL l y bytes ml rt ws rm Z as' h0 Q := by
  refine MetFree.of_bodySF hp hisR ?_
  intro p e s m args below meth c s₁ Bd hml0 hP hK
  obtain ⟨rfl, hZ, hh, hC⟩ := hP
  have g := go p e s m below meth c s₁ Bd.exec Bd.bytes hml0 (findClass_of_methodNamed Bd.named) (name_of_methodNamed Bd.named Bd.method).1 hZ Bd.returns Bd.notSynchronized (Stand.of_body Bd) (by rw [← hh, Bd.state]; rfl) (own_Wd.start hZ hE hC)
  exact own_startW hh (fun t k => castTop (ef m) k) g

theorem own_wS {a0 : Array Value} {Z : State} (hw : ∀ d ∈ tables_1, d.before a0 Z = true) : ∀ a ∈ Bundle.stringAtoms, a.before a0 Z = true := fun d hd => hw d ((by decide +kernel : ∀ d ∈ Bundle.stringAtoms, d ∈ tables_1) d hd)
theorem own_safeV {Z : State} {EL : List (String × Nat)} {vm : Vm} {h : Heap} {x : Addr} {k : ClassId} {ty : FieldType} {z : Int32} {vs : List Value} {d : Value} (hal : Z.vm.Alike vm) (V : Arv Z h x k ty z vs d) (ht : ty ≠ .byte) : Safe Z EL vm h x := by
  obtain ⟨c, A, -⟩ := V
  exact Safe.arr hal A ht
def own_EL : List (String × Nat) := [("com/example/leastwise/leastwise/core/AuthorizableTypeOfPinLaw", 42), ("com/example/leastwise/leastwise/core/AuthorizableTypeOfPinLaw", 52), ("com/example/leastwise/leastwise/core/AuthorizableTypeOfPinLaw", 57), ("com/example/leastwise/leastwise/core/AuthorizableTypeOfPinLaw", 9)]

theorem own_nb (x : Int32) : nar .byte (x.toInt8.toInt32) = x.toInt8.toInt32 := by
  show x.toInt8.toInt32.toInt8.toInt32 = _
  have a := c_i2b x
  have b := c_i2b x.toInt8.toInt32
  rw [← Int32.toInt_inj]
  omega
theorem own_nb2 (x : Int32) : x.toInt8.toInt32.toInt8.toInt32 = x.toInt8.toInt32 := own_nb x
theorem own_i2c {x : Int32} (h : 0 ≤ x.toInt ∧ x.toInt ≤ 65535) : x.toUInt32.toUInt16.toUInt32.toInt32 = x := by
  have q := c_i2c x
  rw [← Int32.toInt_inj]
  omega
theorem own_narc {x : Int32} (h : 0 ≤ x.toInt ∧ x.toInt ≤ 65535) : nar .char x = x := own_i2c h
theorem own_up {x : Int32} (h : 0 ≤ x.toInt ∧ x.toInt ≤ 255) : 0 ≤ x.toInt ∧ x.toInt ≤ 65535 := by omega

def own_St (Z : State) (h : Heap) (a t : Addr) (kb : ClassId) (cs : List Int32) : Prop := Exa Z h a "java/lang/String" ∧ Fld Z h a "java/lang/String" "value" "[B" (.ref t) ∧ Fld Z h a "java/lang/String" "coder" "B" (.int (0 : Int32)) ∧ Arv Z h t kb .byte (Int32.ofNat cs.length) ((cs.map (fun c => c.toInt8.toInt32)).map Value.int) (.int (0 : Int32)) ∧ (∀ c ∈ cs, ¬ c < 0 ∧ ¬ (255 : Int32) < c) ∧ cs.length ≤ 4000
theorem own_St.ext {Z : State} {h h' : Heap} {a t : Addr} {kb : ClassId} {cs : List Int32} (F : own_St Z h a t kb cs) (E : Ext h h') : own_St Z h' a t kb cs := ⟨F.1.ext E, F.2.1.ext E, F.2.2.1.ext E, F.2.2.2.1.ext E, F.2.2.2.2⟩
def own_SC (Z : State) (h : Heap) (v : Value) (oc : Option (List Int32)) : Prop := (v = .null ∧ oc = none) ∨ ∃ (a t : Addr) (kb : ClassId) (cs : List Int32), v = .ref a ∧ oc = some cs ∧ own_St Z h a t kb cs
theorem own_SC.ext {Z : State} {h h' : Heap} {v : Value} {oc : Option (List Int32)} (F : own_SC Z h v oc) (E : Ext h h') : own_SC Z h' v oc := by
  rcases F with q | ⟨a, t, kb, cs, e1, e2, F⟩
  · exact Or.inl q
  · exact Or.inr ⟨a, t, kb, cs, e1, e2, F.ext E⟩
theorem own_upl (cs : List Int32) (h : ∀ c ∈ cs, ¬ c < 0 ∧ ¬ (255 : Int32) < c) : ∀ c ∈ cs, ¬ c < 0 ∧ ¬ (65535 : Int32) < c := fun c hc => ⟨(h c hc).1, fun q => (h c hc).2 (by rw [Int32.lt_iff_toInt_lt] at q ⊢; have e1 : (65535 : Int32).toInt = 65535 := rfl; have e2 : (255 : Int32).toInt = 255 := rfl; omega)⟩
theorem own_ch {c : Int32} (h : 0 ≤ c.toInt ∧ c.toInt ≤ 255) : ¬ c < 0 ∧ ¬ (255 : Int32) < c := by
  have e1 : (0 : Int32).toInt = 0 := rfl
  have e2 : (255 : Int32).toInt = 255 := rfl
  simp only [Int32.lt_iff_toInt_lt, e1, e2]
  omega
theorem own_c255 (x : Int32) : ∃ c : Int32, (x &&& 255).toUInt32.toUInt16.toUInt32.toInt32 = c ∧ (0 ≤ c.toInt ∧ c.toInt ≤ 255) := by
  have h := c_and x 255 (by decide)
  exact ⟨x &&& 255, own_i2c (own_up h), h⟩
theorem own_3 (x : Int32) : (x &&& (2147483647 : Int32)) % (3 : Int32) = 0 ∨ (x &&& (2147483647 : Int32)) % (3 : Int32) = 1 ∨ (x &&& (2147483647 : Int32)) % (3 : Int32) = 2 := by
  have h := c_and x 2147483647 (by decide)
  have q := (c_irem (x &&& 2147483647) 3 3 rfl).1 h.1
  have l0 : (0 : Int32).toInt = 0 := rfl
  have l1 : (1 : Int32).toInt = 1 := rfl
  have l2 : (2 : Int32).toInt = 2 := rfl
  simp only [← Int32.toInt_inj, l0, l1, l2]
  omega
theorem own_pos (x n : Int32) (m : Int) (hn : n.toInt = m) (hm : 0 < m) : ∃ p : Int32, (x &&& (2147483647 : Int32)) % n = p ∧ 0 ≤ p.toInt ∧ p.toInt < m := by
  have h := c_and x 2147483647 (by decide)
  have q := (c_irem (x &&& 2147483647) n m hn).1 h.1
  exact ⟨_, rfl, by rw [q]; exact Int.emod_nonneg _ (by omega), by rw [q]; exact Int.emod_lt_of_pos _ hm⟩
theorem own_inb {p n : Int32} {m : Int} (hn : n.toInt = m) (h : 0 ≤ p.toInt ∧ p.toInt < m) : ¬ p < 0 ∧ p < n := by
  have e1 : (0 : Int32).toInt = 0 := rfl
  simp only [Int32.lt_iff_toInt_lt, e1, hn]
  omega
theorem own_pn {p : Int32} {m : Nat} (h : 0 ≤ p.toInt ∧ p.toInt < m) : p.toNatClampNeg < m := by
  have e1 : (0 : Int32).toInt = 0 := rfl
  have hn : ((p).toNatClampNeg : Int) = p.toInt := (nat_of (by rw [Int32.lt_iff_toInt_lt, e1]; omega)).symm
  omega
theorem own_setch {L : List Int32} {i : Nat} {x : Int32} (hL : ∀ c ∈ L, ¬ c < 0 ∧ ¬ (255 : Int32) < c) (hx : ¬ x < 0 ∧ ¬ (255 : Int32) < x) : ∀ c ∈ L.set i x, ¬ c < 0 ∧ ¬ (255 : Int32) < c := fun c hc => by
  rcases List.mem_or_eq_of_mem_set hc with h | rfl
  · exact hL c h
  · exact hx
def own_L (k : Int32) : List Int32 := if k = 0 then [(114 : Int32), (101 : Int32), (112 : Int32), (58 : Int32), (83 : Int32), (121 : Int32), (115 : Int32), (116 : Int32), (101 : Int32), (109 : Int32), (85 : Int32), (115 : Int32), (101 : Int32), (114 : Int32)] else if k = 1 then [(114 : Int32), (101 : Int32), (112 : Int32), (58 : Int32), (85 : Int32), (115 : Int32), (101 : Int32), (114 : Int32)] else [(114 : Int32), (101 : Int32), (112 : Int32), (58 : Int32), (71 : Int32), (114 : Int32), (111 : Int32), (117 : Int32), (112 : Int32)]
def own_ref (oc : Option (List Int32)) (aS aU aG : Addr) : Value := match oc with
  | none => .null
  | some cs => if cs = [(114 : Int32), (101 : Int32), (112 : Int32), (58 : Int32), (83 : Int32), (121 : Int32), (115 : Int32), (116 : Int32), (101 : Int32), (109 : Int32), (85 : Int32), (115 : Int32), (101 : Int32), (114 : Int32)] then .ref aS else if cs = [(114 : Int32), (101 : Int32), (112 : Int32), (58 : Int32), (85 : Int32), (115 : Int32), (101 : Int32), (114 : Int32)] then .ref aU else if cs = [(114 : Int32), (101 : Int32), (112 : Int32), (58 : Int32), (71 : Int32), (114 : Int32), (111 : Int32), (117 : Int32), (112 : Int32)] then .ref aG else .null
theorem own_ref_ref (oc : Option (List Int32)) (aS aU aG : Addr) : (own_ref oc aS aU aG).isRef = true := by
  cases oc with
  | none => rfl
  | some cs => unfold own_ref; simp only; repeat' split
               all_goals rfl

theorem own_exttr {h h' h'' : Heap} (A : Ext h h') (B : Ext h' h'') : Ext h h'' := ⟨Nat.le_trans A.1 B.1, fun a c q => B.2 a c (A.2 a c q)⟩
theorem own_extrefl {h : Heap} : Ext h h := ⟨Nat.le_refl _, fun a c q => q⟩

theorem own_byL (kk : Int32) (hk : kk = (0 : Int32) ∨ kk = (1 : Int32) ∨ kk = (2 : Int32)) (a b c : Addr) : own_ref (some (own_L kk)) a b c = .ref (if kk = 0 then a else if kk = 1 then b else c) := by
  rcases hk with rfl | rfl | rfl <;> rfl

theorem own_sta {s : State} {args : Array Value} {C n d K : String} (hi : (Cond.initialized C).before args s = true) (hl : (Cond.laysStatic C n d).before args s = true) (hx : (Cond.exactly (.static C n d) K).value args s none s [] = some true) : ∃ a, (Term.static C n d).eval args s none [] s = some (.ref a) ∧ Sta s s.heap C n d (.ref a) ∧ Exa s s.heap a K := by
  obtain ⟨a, ev⟩ := exa_v hx
  exact ⟨a, ev, Sta.start ev (Or.inr ⟨hi, hl⟩), Exa.start ev hx⟩
theorem own_fld {s : State} {args : Array Value} {t : Term} {a : Addr} {C n d : String} {z : Int32} (ev : t.eval args s none [] s = some (.ref a)) (h : (Cond.eq (.field t C n d) (.int z)).value args s none s [] = some true) : Fld s s.heap a C n d (.int z) := by
  obtain ⟨x, y, e1, e2, -, k⟩ := cmp_v (Or.inl h)
  obtain rfl : y = .int z := (Option.some.inj ((Term.int_eval z).symm.trans e2)).symm
  obtain ⟨w, rfl⟩ : ∃ w, x = .int w := k
  have hz : w = z := gotT (Cond.eq_ints e1 (Term.int_eval z)) h
  subst hz
  rw [fld_at ev] at e1
  exact Fld.start e1
/-- what an array holds at the start, said place by place (the places from i on) -/
def own_Els (args : Array Value) (s : State) (t : Term) : Nat → List Value → Prop
  | _, [] => True
  | i, v :: vs => (Term.elem t (.int (Int32.ofNat i))).eval args s none [] s = some v ∧ own_Els args s t (i + 1) vs
theorem own_elI {args : Array Value} {s : State} {t : Term} {a : Addr} {j z : Int32} (ev : t.eval args s none [] s = some (.ref a)) (h : (Cond.eq (.elem t (.int j)) (.int z)).value args s none s [] = some true) : (Term.elem t (.int j)).eval args s none [] s = some (.int z) := by
  obtain ⟨x, y, e1, e2, -, k⟩ := cmp_v (Or.inl h)
  obtain rfl : y = .int z := (Option.some.inj ((Term.int_eval z).symm.trans e2)).symm
  obtain ⟨w, rfl⟩ : ∃ w, x = .int w := k
  have hz : w = z := gotT (Cond.eq_ints e1 (Term.int_eval z)) h
  subst hz
  exact e1
theorem own_elR {args : Array Value} {s : State} {t u : Term} {a b : Addr} {j : Int32} (ev : t.eval args s none [] s = some (.ref a)) (eu : u.eval args s none [] s = some (.ref b)) (h : (Cond.eq (.elem t (.int j)) u).value args s none s [] = some true) : (Term.elem t (.int j)).eval args s none [] s = some (.ref b) := by
  obtain ⟨x, y, e1, e2, k1, k2⟩ := cmp_v (Or.inl h)
  cases eu.symm.trans e2
  have hx : x.isRef = true := k2.2
  have q := gotT (eq_R e1 e2 hx rfl) h
  rw [e1, q]
theorem own_ofn {i : Nat} (h : i < 2 ^ 31) : ¬ Int32.ofNat i < 0 ∧ (Int32.ofNat i).toNatClampNeg = i := by
  have e : (Int32.ofNat i).toInt = i := Int32.toInt_ofNat_small h
  have e0 : (0 : Int32).toInt = 0 := rfl
  have hn : ¬ Int32.ofNat i < 0 := by rw [Int32.lt_iff_toInt_lt, e, e0]; omega
  have q := nat_of hn
  exact ⟨hn, by omega⟩
theorem own_els {args : Array Value} {s : State} {t : Term} {a : Addr} {cl : Cell} (ev : t.eval args s none [] s = some (.ref a)) (hat : s.arrayAt? a = some cl) : ∀ (vs : List Value) (i : Nat), i + vs.length < 2 ^ 31 → own_Els args s t i vs → HasL cl i vs
  | [], _, _, _ => trivial
  | v :: vs, i, h, ⟨h1, h2⟩ => by
    have hi : i < 2 ^ 31 := by simp only [List.length_cons] at h; omega
    have o := own_ofn hi
    have q := elem_f (a := .int (Int32.ofNat i)) ev (Term.int_eval _) hat o.1
    rw [q, o.2] at h1
    exact ⟨h1, own_els ev hat vs (i + 1) (by simp only [List.length_cons] at h; omega) h2⟩
theorem own_starr {args : Array Value} {s : State} {t : Term} {a : Addr} {ty : FieldType} {z : Int32} {vs : List Value} {dv : Value} (hf : Fit s) (ev : t.eval args s none [] s = some (.ref a)) (ha : (Cond.arrayOf t ty).value args s none s [] = some true) (hl : (Cond.eq (.length t) (.int z)).value args s none s [] = some true)
    (hz : ¬ z < 0) (hlen : z.toNatClampNeg = vs.length) (he : own_Els args s t 0 vs) : ∃ k, Arv s s.heap a k ty z vs dv := by
  obtain ⟨cl, A⟩ := Arr.start ev ha
  have hat : s.arrayAt? a = some cl := A.fin (Vm.Alike.refl _)
  obtain ⟨x, y, e1, e2, -, k⟩ := cmp_v (Or.inl hl)
  obtain rfl : y = .int z := (Option.some.inj ((Term.int_eval z).symm.trans e2)).symm
  obtain ⟨w, rfl⟩ : ∃ w, x = .int w := k
  have hw : w = z := gotT (Cond.eq_ints e1 (Term.int_eval z)) hl
  subst hw
  have hs : cl.slots.size < 2 ^ 31 ∧ cl.slots.size.toInt32 = w := by
    have q := e1
    simp only [Term.eval, ev, hat, Option.bind_eq_bind, Option.bind_some] at q
    split at q
    · rename_i hq
      exact ⟨hq, by injection q with q; injection q⟩
    · cases q
  have hn := nat_of hz
  have r := rng32 w
  exact ⟨cl.cls, Arv.start hf A hs.1 hs.2 hz hlen (own_els ev hat vs 0 (by omega) he)⟩

def Q10 (Z : State) (h0 : Heap) (n0 : Nat) (v : Option Value) (h : Heap) (L : List Loc) : Prop := ∃ (b : Addr) (k : ClassId), v = some (.ref b) ∧ Fr n0 L ∧ Keep h0 h [] ∧ n0 ≤ b ∧ h0.size ≤ b ∧ Arv Z h b k .char (14 : Int32) [(.int (114 : Int32)), (.int (101 : Int32)), (.int (112 : Int32)), (.int (58 : Int32)), (.int (83 : Int32)), (.int (121 : Int32)), (.int (115 : Int32)), (.int (116 : Int32)), (.int (101 : Int32)), (.int (109 : Int32)), (.int (85 : Int32)), (.int (115 : Int32)), (.int (101 : Int32)), (.int (114 : Int32))] (.int (0 : Int32))

theorem d10_0 : decode method_5_code 0 = .ok (.iload_n 0, 1) := by decide +kernel
theorem d10_1 : decode method_5_code 1 = .ok (.ifCond .ne 86, 3) := by decide +kernel
theorem d10_4 : decode method_5_code 4 = .ok (.bipush 14, 2) := by decide +kernel
theorem d10_6 : decode method_5_code 6 = .ok (.newarray .char, 2) := by decide +kernel
theorem d10_8 : decode method_5_code 8 = .ok (.dup, 1) := by decide +kernel
theorem d10_9 : decode method_5_code 9 = .ok (.iconst 0, 1) := by decide +kernel
theorem d10_10 : decode method_5_code 10 = .ok (.bipush 114, 2) := by decide +kernel
theorem d10_12 : decode method_5_code 12 = .ok (.castore, 1) := by decide +kernel
theorem d10_13 : decode method_5_code 13 = .ok (.dup, 1) := by decide +kernel
theorem d10_14 : decode method_5_code 14 = .ok (.iconst 1, 1) := by decide +kernel
theorem d10_15 : decode method_5_code 15 = .ok (.bipush 101, 2) := by decide +kernel
theorem d10_17 : decode method_5_code 17 = .ok (.castore, 1) := by decide +kernel
theorem d10_18 : decode method_5_code 18 = .ok (.dup, 1) := by decide +kernel
theorem d10_19 : decode method_5_code 19 = .ok (.iconst 2, 1) := by decide +kernel
theorem d10_20 : decode method_5_code 20 = .ok (.bipush 112, 2) := by decide +kernel
theorem d10_22 : decode method_5_code 22 = .ok (.castore, 1) := by decide +kernel
theorem d10_23 : decode method_5_code 23 = .ok (.dup, 1) := by decide +kernel
theorem d10_24 : decode method_5_code 24 = .ok (.iconst 3, 1) := by decide +kernel
theorem d10_25 : decode method_5_code 25 = .ok (.bipush 58, 2) := by decide +kernel
theorem d10_27 : decode method_5_code 27 = .ok (.castore, 1) := by decide +kernel
theorem d10_28 : decode method_5_code 28 = .ok (.dup, 1) := by decide +kernel
theorem d10_29 : decode method_5_code 29 = .ok (.iconst 4, 1) := by decide +kernel
theorem d10_30 : decode method_5_code 30 = .ok (.bipush 83, 2) := by decide +kernel
theorem d10_32 : decode method_5_code 32 = .ok (.castore, 1) := by decide +kernel
theorem d10_33 : decode method_5_code 33 = .ok (.dup, 1) := by decide +kernel
theorem d10_34 : decode method_5_code 34 = .ok (.iconst 5, 1) := by decide +kernel
theorem d10_35 : decode method_5_code 35 = .ok (.bipush 121, 2) := by decide +kernel
theorem d10_37 : decode method_5_code 37 = .ok (.castore, 1) := by decide +kernel
theorem d10_38 : decode method_5_code 38 = .ok (.dup, 1) := by decide +kernel
theorem d10_39 : decode method_5_code 39 = .ok (.bipush 6, 2) := by decide +kernel
theorem d10_41 : decode method_5_code 41 = .ok (.bipush 115, 2) := by decide +kernel
theorem d10_43 : decode method_5_code 43 = .ok (.castore, 1) := by decide +kernel
theorem d10_44 : decode method_5_code 44 = .ok (.dup, 1) := by decide +kernel
theorem d10_45 : decode method_5_code 45 = .ok (.bipush 7, 2) := by decide +kernel
theorem d10_47 : decode method_5_code 47 = .ok (.bipush 116, 2) := by decide +kernel
theorem d10_49 : decode method_5_code 49 = .ok (.castore, 1) := by decide +kernel
theorem d10_50 : decode method_5_code 50 = .ok (.dup, 1) := by decide +kernel
theorem d10_51 : decode method_5_code 51 = .ok (.bipush 8, 2) := by decide +kernel
theorem d10_53 : decode method_5_code 53 = .ok (.bipush 101, 2) := by decide +kernel
theorem d10_55 : decode method_5_code 55 = .ok (.castore, 1) := by decide +kernel
theorem d10_56 : decode method_5_code 56 = .ok (.dup, 1) := by decide +kernel
theorem d10_57 : decode method_5_code 57 = .ok (.bipush 9, 2) := by decide +kernel
theorem d10_59 : decode method_5_code 59 = .ok (.bipush 109, 2) := by decide +kernel
theorem d10_61 : decode method_5_code 61 = .ok (.castore, 1) := by decide +kernel
theorem d10_62 : decode method_5_code 62 = .ok (.dup, 1) := by decide +kernel
theorem d10_63 : decode method_5_code 63 = .ok (.bipush 10, 2) := by decide +kernel
theorem d10_65 : decode method_5_code 65 = .ok (.bipush 85, 2) := by decide +kernel
theorem d10_67 : decode method_5_code 67 = .ok (.castore, 1) := by decide +kernel
theorem d10_68 : decode method_5_code 68 = .ok (.dup, 1) := by decide +kernel
theorem d10_69 : decode method_5_code 69 = .ok (.bipush 11, 2) := by decide +kernel
theorem d10_71 : decode method_5_code 71 = .ok (.bipush 115, 2) := by decide +kernel
theorem d10_73 : decode method_5_code 73 = .ok (.castore, 1) := by decide +kernel
theorem d10_74 : decode method_5_code 74 = .ok (.dup, 1) := by decide +kernel
theorem d10_75 : decode method_5_code 75 = .ok (.bipush 12, 2) := by decide +kernel
theorem d10_77 : decode method_5_code 77 = .ok (.bipush 101, 2) := by decide +kernel
theorem d10_79 : decode method_5_code 79 = .ok (.castore, 1) := by decide +kernel
theorem d10_80 : decode method_5_code 80 = .ok (.dup, 1) := by decide +kernel
theorem d10_81 : decode method_5_code 81 = .ok (.bipush 13, 2) := by decide +kernel
theorem d10_83 : decode method_5_code 83 = .ok (.bipush 114, 2) := by decide +kernel
theorem d10_85 : decode method_5_code 85 = .ok (.castore, 1) := by decide +kernel
theorem d10_86 : decode method_5_code 86 = .ok (.areturn, 1) := by decide +kernel
theorem pn10 : plainName "com/example/leastwise/leastwise/core/AuthorizableTypeOfPinLaw" = true := by first | (simp [plainName, overriddenIn]; done) | decide +kernel
theorem ef10 (m : MethodId) (x0 : Int32) : entryFrame m #[(.int x0)] 1 = mkF m 0 #[.val (.int x0)] [] := by first | (simp [entryFrame, mkF, argsToLocals, Value.category]; done) | rfl
set_option maxRecDepth 65536 in
set_option maxHeartbeats 40000000 in
theorem rm10 (l : Launch) (Z : State) (a0 : Array Value) (hw : ∀ d ∈ tables_1, d.before a0 Z = true) (ws : List Jvm.Cond)  (h0 : Heap) (n0 : Nat) (Z0 : n0 ≤ h0.size) :
    own_Met l (⟨"com/example/leastwise/leastwise/core/AuthorizableTypeOfPinLaw", "full", "(I)[C"⟩ : MethodName) method_5_code 1 (some (.array .char)) ws ({ frames := 0, cells := 1, slots := 14, locals := 0 } : Room) Z #[(.int (0 : Int32))] h0 (Q10 Z h0 n0) := by
  refine own_enter #[.val (.int (0 : Int32))] (plainFor_of_name pn10) (fun m => ef10 m (0 : Int32)) ?_
  intro p e s m below meth c s₁ hx hby hml hown hnm hZ hrt hlk X0 e0
  have N0 := Fr.nil n0
  refine own_tp (.int (0 : Int32)) 1 (fun _ q => XS.iloadN X0.here hx rfl (hb hby d10_0) rfl q) ?_
  refine own_d1 4 (fun _ q => XS.ifNo X0.here hx rfl (hb hby d10_1) rfl ((if0 _ _).trans (teq (by decide : (0 : Int32) = (0 : Int32))).2) q) ?_
  refine own_tp (.int (14 : Int32)) 6 (fun _ q => XS.bipush X0.here hx rfl (hb hby d10_4) q) ?_
  obtain ⟨T51, h51, k51, X51, e51, E51, A51, st51⟩ := newP X0 hx hZ (hw _ (List.mem_of_getElem? (i := 8) rfl)) e0 (g := (mkF m 6 #[.val (.int (0 : Int32))] [(.int (14 : Int32))])) rfl (hb hby d10_6) rfl (by decide) (cap := 14) (by decide) (by decide) (by decide) (by decide)
  obtain ⟨b51, g51⟩ : ∃ z, z = h0.size := ⟨_, rfl⟩
  rw [← g51] at A51 st51
  have V51 : Arv Z h51 b51 k51 .char (14 : Int32) [(.int (0 : Int32)), (.int (0 : Int32)), (.int (0 : Int32)), (.int (0 : Int32)), (.int (0 : Int32)), (.int (0 : Int32)), (.int (0 : Int32)), (.int (0 : Int32)), (.int (0 : Int32)), (.int (0 : Int32)), (.int (0 : Int32)), (.int (0 : Int32)), (.int (0 : Int32)), (.int (0 : Int32))] (.int (0 : Int32)) := (Arv.new A51 (by decide)).pad (pad_rep [] (.int (0 : Int32)) 14)
  have ge51 : n0 ≤ b51 := Nat.le_trans Z0 (Nat.le_of_eq g51.symm)
  have sz51 : h0.size ≤ b51 := Nat.le_trans (Keep.refl h0 []).1 (Nat.le_of_eq g51.symm)
  have K51 : Keep h0 h51 [] := (Keep.refl h0 []).ext E51
  have Z51 : n0 ≤ h51.size := Nat.le_trans Z0 E51.1
  refine own_t1 (.ref b51) 8 st51 ?_
  refine own_tp (.ref b51) 9 (fun _ q => XS.dup X51.here hx rfl (hb hby d10_8) rfl rfl q) ?_
  refine own_tp (.int (0 : Int32)) 10 (fun _ q => XS.iconst X51.here hx rfl (hb hby d10_9) q) ?_
  refine own_tp (.int (114 : Int32)) 12 (fun _ q => XS.bipush X51.here hx rfl (hb hby d10_10) q) ?_
  obtain ⟨cl52, Ar52, q52, S52, Nn52, H52, G52⟩ := (id V51)
  have hin52 : ¬ ((0 : Int32) < 0 ∨ cl52.slots.size ≤ ((0 : Int32)).toNatClampNeg) := inb_of S52 ⟨by decide, by decide⟩
  obtain ⟨T53, h53, X53, e53, W53, st53⟩ := stC X51 hx hZ e51 Ar52 (j := (0 : Int32)) hin52 (g := (mkF m 12 #[.val (.int (0 : Int32))] [(.int (114 : Int32)), (.int (0 : Int32)), (.ref b51), (.ref b51)])) rfl rfl (hb hby d10_12)
  have V53 := Arv.set Ar52 q52 S52 Nn52 H52 G52 (fits_nar_char _) W53 0 rfl (Nat.le_of_ble_eq_true rfl)
  have N53 := Fr.snoc X53 N0 ge51
  have K53 : Keep h0 h53 [] := K51.wr W53 (Or.inr sz51)
  have Z53 : n0 ≤ h53.size := Nat.le_trans Z51 (Nat.le_of_eq W53.size.symm)
  have V53' : Arv Z h53 b51 k51 .char (14 : Int32) [(.int (114 : Int32)), (.int (0 : Int32)), (.int (0 : Int32)), (.int (0 : Int32)), (.int (0 : Int32)), (.int (0 : Int32)), (.int (0 : Int32)), (.int (0 : Int32)), (.int (0 : Int32)), (.int (0 : Int32)), (.int (0 : Int32)), (.int (0 : Int32)), (.int (0 : Int32)), (.int (0 : Int32))] (.int (0 : Int32)) := V53
  refine own_cs [(.ref b51)] 13 st53 ?_
  refine own_tp (.ref b51) 14 (fun _ q => XS.dup X53.here hx rfl (hb hby d10_13) rfl rfl q) ?_
  refine own_tp (.int (1 : Int32)) 15 (fun _ q => XS.iconst X53.here hx rfl (hb hby d10_14) q) ?_
  refine own_tp (.int (101 : Int32)) 17 (fun _ q => XS.bipush X53.here hx rfl (hb hby d10_15) q) ?_
  obtain ⟨cl54, Ar54, q54, S54, Nn54, H54, G54⟩ := (id V53')
  have hin54 : ¬ ((1 : Int32) < 0 ∨ cl54.slots.size ≤ ((1 : Int32)).toNatClampNeg) := inb_of S54 ⟨by decide, by decide⟩
  obtain ⟨T55, h55, X55, e55, W55, st55⟩ := stC X53 hx hZ e53 Ar54 (j := (1 : Int32)) hin54 (g := (mkF m 17 #[.val (.int (0 : Int32))] [(.int (101 : Int32)), (.int (1 : Int32)), (.ref b51), (.ref b51)])) rfl rfl (hb hby d10_17)
  have V55 := Arv.set Ar54 q54 S54 Nn54 H54 G54 (fits_nar_char _) W55 1 rfl (Nat.le_of_ble_eq_true rfl)
  have N55 := Fr.snoc X55 N53 ge51
  have K55 : Keep h0 h55 [] := K53.wr W55 (Or.inr sz51)
  have Z55 : n0 ≤ h55.size := Nat.le_trans Z53 (Nat.le_of_eq W55.size.symm)
  have V55' : Arv Z h55 b51 k51 .char (14 : Int32) [(.int (114 : Int32)), (.int (101 : Int32)), (.int (0 : Int32)), (.int (0 : Int32)), (.int (0 : Int32)), (.int (0 : Int32)), (.int (0 : Int32)), (.int (0 : Int32)), (.int (0 : Int32)), (.int (0 : Int32)), (.int (0 : Int32)), (.int (0 : Int32)), (.int (0 : Int32)), (.int (0 : Int32))] (.int (0 : Int32)) := V55
  refine own_cs [(.ref b51)] 18 st55 ?_
  refine own_tp (.ref b51) 19 (fun _ q => XS.dup X55.here hx rfl (hb hby d10_18) rfl rfl q) ?_
  refine own_tp (.int (2 : Int32)) 20 (fun _ q => XS.iconst X55.here hx rfl (hb hby d10_19) q) ?_
  refine own_tp (.int (112 : Int32)) 22 (fun _ q => XS.bipush X55.here hx rfl (hb hby d10_20) q) ?_
  obtain ⟨cl56, Ar56, q56, S56, Nn56, H56, G56⟩ := (id V55')
  have hin56 : ¬ ((2 : Int32) < 0 ∨ cl56.slots.size ≤ ((2 : Int32)).toNatClampNeg) := inb_of S56 ⟨by decide, by decide⟩
  obtain ⟨T57, h57, X57, e57, W57, st57⟩ := stC X55 hx hZ e55 Ar56 (j := (2 : Int32)) hin56 (g := (mkF m 22 #[.val (.int (0 : Int32))] [(.int (112 : Int32)), (.int (2 : Int32)), (.ref b51), (.ref b51)])) rfl rfl (hb hby d10_22)
  have V57 := Arv.set Ar56 q56 S56 Nn56 H56 G56 (fits_nar_char _) W57 2 rfl (Nat.le_of_ble_eq_true rfl)
  have N57 := Fr.snoc X57 N55 ge51
  have K57 : Keep h0 h57 [] := K55.wr W57 (Or.inr sz51)
  have Z57 : n0 ≤ h57.size := Nat.le_trans Z55 (Nat.le_of_eq W57.size.symm)
  have V57' : Arv Z h57 b51 k51 .char (14 : Int32) [(.int (114 : Int32)), (.int (101 : Int32)), (.int (112 : Int32)), (.int (0 : Int32)), (.int (0 : Int32)), (.int (0 : Int32)), (.int (0 : Int32)), (.int (0 : Int32)), (.int (0 : Int32)), (.int (0 : Int32)), (.int (0 : Int32)), (.int (0 : Int32)), (.int (0 : Int32)), (.int (0 : Int32))] (.int (0 : Int32)) := V57
  refine own_cs [(.ref b51)] 23 st57 ?_
  refine own_tp (.ref b51) 24 (fun _ q => XS.dup X57.here hx rfl (hb hby d10_23) rfl rfl q) ?_
  refine own_tp (.int (3 : Int32)) 25 (fun _ q => XS.iconst X57.here hx rfl (hb hby d10_24) q) ?_
  refine own_tp (.int (58 : Int32)) 27 (fun _ q => XS.bipush X57.here hx rfl (hb hby d10_25) q) ?_
  obtain ⟨cl58, Ar58, q58, S58, Nn58, H58, G58⟩ := (id V57')
  have hin58 : ¬ ((3 : Int32) < 0 ∨ cl58.slots.size ≤ ((3 : Int32)).toNatClampNeg) := inb_of S58 ⟨by decide, by decide⟩
  obtain ⟨T59, h59, X59, e59, W59, st59⟩ := stC X57 hx hZ e57 Ar58 (j := (3 : Int32)) hin58 (g := (mkF m 27 #[.val (.int (0 : Int32))] [(.int (58 : Int32)), (.int (3 : Int32)), (.ref b51), (.ref b51)])) rfl rfl (hb hby d10_27)
  have V59 := Arv.set Ar58 q58 S58 Nn58 H58 G58 (fits_nar_char _) W59 3 rfl (Nat.le_of_ble_eq_true rfl)
  have N59 := Fr.snoc X59 N57 ge51
  have K59 : Keep h0 h59 [] := K57.wr W59 (Or.inr sz51)
  have Z59 : n0 ≤ h59.size := Nat.le_trans Z57 (Nat.le_of_eq W59.size.symm)
  have V59' : Arv Z h59 b51 k51 .char (14 : Int32) [(.int (114 : Int32)), (.int (101 : Int32)), (.int (112 : Int32)), (.int (58 : Int32)), (.int (0 : Int32)), (.int (0 : Int32)), (.int (0 : Int32)), (.int (0 : Int32)), (.int (0 : Int32)), (.int (0 : Int32)), (.int (0 : Int32)), (.int (0 : Int32)), (.int (0 : Int32)), (.int (0 : Int32))] (.int (0 : Int32)) := V59
  refine own_cs [(.ref b51)] 28 st59 ?_
  refine own_tp (.ref b51) 29 (fun _ q => XS.dup X59.here hx rfl (hb hby d10_28) rfl rfl q) ?_
  refine own_tp (.int (4 : Int32)) 30 (fun _ q => XS.iconst X59.here hx rfl (hb hby d10_29) q) ?_
  refine own_tp (.int (83 : Int32)) 32 (fun _ q => XS.bipush X59.here hx rfl (hb hby d10_30) q) ?_
  obtain ⟨cl60, Ar60, q60, S60, Nn60, H60, G60⟩ := (id V59')
  have hin60 : ¬ ((4 : Int32) < 0 ∨ cl60.slots.size ≤ ((4 : Int32)).toNatClampNeg) := inb_of S60 ⟨by decide, by decide⟩
  obtain ⟨T61, h61, X61, e61, W61, st61⟩ := stC X59 hx hZ e59 Ar60 (j := (4 : Int32)) hin60 (g := (mkF m 32 #[.val (.int (0 : Int32))] [(.int (83 : Int32)), (.int (4 : Int32)), (.ref b51), (.ref b51)])) rfl rfl (hb hby d10_32)
  have V61 := Arv.set Ar60 q60 S60 Nn60 H60 G60 (fits_nar_char _) W61 4 rfl (Nat.le_of_ble_eq_true rfl)
  have N61 := Fr.snoc X61 N59 ge51
  have K61 : Keep h0 h61 [] := K59.wr W61 (Or.inr sz51)
  have Z61 : n0 ≤ h61.size := Nat.le_trans Z59 (Nat.le_of_eq W61.size.symm)
  have V61' : Arv Z h61 b51 k51 .char (14 : Int32) [(.int (114 : Int32)), (.int (101 : Int32)), (.int (112 : Int32)), (.int (58 : Int32)), (.int (83 : Int32)), (.int (0 : Int32)), (.int (0 : Int32)), (.int (0 : Int32)), (.int (0 : Int32)), (.int (0 : Int32)), (.int (0 : Int32)), (.int (0 : Int32)), (.int (0 : Int32)), (.int (0 : Int32))] (.int (0 : Int32)) := V61
  refine own_cs [(.ref b51)] 33 st61 ?_
  refine own_tp (.ref b51) 34 (fun _ q => XS.dup X61.here hx rfl (hb hby d10_33) rfl rfl q) ?_
  refine own_tp (.int (5 : Int32)) 35 (fun _ q => XS.iconst X61.here hx rfl (hb hby d10_34) q) ?_
  refine own_tp (.int (121 : Int32)) 37 (fun _ q => XS.bipush X61.here hx rfl (hb hby d10_35) q) ?_
  obtain ⟨cl62, Ar62, q62, S62, Nn62, H62, G62⟩ := (id V61')
  have hin62 : ¬ ((5 : Int32) < 0 ∨ cl62.slots.size ≤ ((5 : Int32)).toNatClampNeg) := inb_of S62 ⟨by decide, by decide⟩
  obtain ⟨T63, h63, X63, e63, W63, st63⟩ := stC X61 hx hZ e61 Ar62 (j := (5 : Int32)) hin62 (g := (mkF m 37 #[.val (.int (0 : Int32))] [(.int (121 : Int32)), (.int (5 : Int32)), (.ref b51), (.ref b51)])) rfl rfl (hb hby d10_37)
  have V63 := Arv.set Ar62 q62 S62 Nn62 H62 G62 (fits_nar_char _) W63 5 rfl (Nat.le_of_ble_eq_true rfl)
  have N63 := Fr.snoc X63 N61 ge51
  have K63 : Keep h0 h63 [] := K61.wr W63 (Or.inr sz51)
  have Z63 : n0 ≤ h63.size := Nat.le_trans Z61 (Nat.le_of_eq W63.size.symm)
  have V63' : Arv Z h63 b51 k51 .char (14 : Int32) [(.int (114 : Int32)), (.int (101 : Int32)), (.int (112 : Int32)), (.int (58 : Int32)), (.int (83 : Int32)), (.int (121 : Int32)), (.int (0 : Int32)), (.int (0 : Int32)), (.int (0 : Int32)), (.int (0 : Int32)), (.int (0 : Int32)), (.int (0 : Int32)), (.int (0 : Int32)), (.int (0 : Int32))] (.int (0 : Int32)) := V63
  refine own_cs [(.ref b51)] 38 st63 ?_
  refine own_tp (.ref b51) 39 (fun _ q => XS.dup X63.here hx rfl (hb hby d10_38) rfl rfl q) ?_
  refine own_tp (.int (6 : Int32)) 41 (fun _ q => XS.bipush X63.here hx rfl (hb hby d10_39) q) ?_
  refine own_tp (.int (115 : Int32)) 43 (fun _ q => XS.bipush X63.here hx rfl (hb hby d10_41) q) ?_
  obtain ⟨cl64, Ar64, q64, S64, Nn64, H64, G64⟩ := (id V63')
  have hin64 : ¬ ((6 : Int32) < 0 ∨ cl64.slots.size ≤ ((6 : Int32)).toNatClampNeg) := inb_of S64 ⟨by decide, by decide⟩
  obtain ⟨T65, h65, X65, e65, W65, st65⟩ := stC X63 hx hZ e63 Ar64 (j := (6 : Int32)) hin64 (g := (mkF m 43 #[.val (.int (0 : Int32))] [(.int (115 : Int32)), (.int (6 : Int32)), (.ref b51), (.ref b51)])) rfl rfl (hb hby d10_43)
  have V65 := Arv.set Ar64 q64 S64 Nn64 H64 G64 (fits_nar_char _) W65 6 rfl (Nat.le_of_ble_eq_true rfl)
  have N65 := Fr.snoc X65 N63 ge51
  have K65 : Keep h0 h65 [] := K63.wr W65 (Or.inr sz51)
  have Z65 : n0 ≤ h65.size := Nat.le_trans Z63 (Nat.le_of_eq W65.size.symm)
  have V65' : Arv Z h65 b51 k51 .char (14 : Int32) [(.int (114 : Int32)), (.int (101 : Int32)), (.int (112 : Int32)), (.int (58 : Int32)), (.int (83 : Int32)), (.int (121 : Int32)), (.int (115 : Int32)), (.int (0 : Int32)), (.int (0 : Int32)), (.int (0 : Int32)), (.int (0 : Int32)), (.int (0 : Int32)), (.int (0 : Int32)), (.int (0 : Int32))] (.int (0 : Int32)) := V65
  refine own_cs [(.ref b51)] 44 st65 ?_
  refine own_tp (.ref b51) 45 (fun _ q => XS.dup X65.here hx rfl (hb hby d10_44) rfl rfl q) ?_
  refine own_tp (.int (7 : Int32)) 47 (fun _ q => XS.bipush X65.here hx rfl (hb hby d10_45) q) ?_
  refine own_tp (.int (116 : Int32)) 49 (fun _ q => XS.bipush X65.here hx rfl (hb hby d10_47) q) ?_
  obtain ⟨cl66, Ar66, q66, S66, Nn66, H66, G66⟩ := (id V65')
  have hin66 : ¬ ((7 : Int32) < 0 ∨ cl66.slots.size ≤ ((7 : Int32)).toNatClampNeg) := inb_of S66 ⟨by decide, by decide⟩
  obtain ⟨T67, h67, X67, e67, W67, st67⟩ := stC X65 hx hZ e65 Ar66 (j := (7 : Int32)) hin66 (g := (mkF m 49 #[.val (.int (0 : Int32))] [(.int (116 : Int32)), (.int (7 : Int32)), (.ref b51), (.ref b51)])) rfl rfl (hb hby d10_49)
  have V67 := Arv.set Ar66 q66 S66 Nn66 H66 G66 (fits_nar_char _) W67 7 rfl (Nat.le_of_ble_eq_true rfl)
  have N67 := Fr.snoc X67 N65 ge51
  have K67 : Keep h0 h67 [] := K65.wr W67 (Or.inr sz51)
  have Z67 : n0 ≤ h67.size := Nat.le_trans Z65 (Nat.le_of_eq W67.size.symm)
  have V67' : Arv Z h67 b51 k51 .char (14 : Int32) [(.int (114 : Int32)), (.int (101 : Int32)), (.int (112 : Int32)), (.int (58 : Int32)), (.int (83 : Int32)), (.int (121 : Int32)), (.int (115 : Int32)), (.int (116 : Int32)), (.int (0 : Int32)), (.int (0 : Int32)), (.int (0 : Int32)), (.int (0 : Int32)), (.int (0 : Int32)), (.int (0 : Int32))] (.int (0 : Int32)) := V67
  refine own_cs [(.ref b51)] 50 st67 ?_
  refine own_tp (.ref b51) 51 (fun _ q => XS.dup X67.here hx rfl (hb hby d10_50) rfl rfl q) ?_
  refine own_tp (.int (8 : Int32)) 53 (fun _ q => XS.bipush X67.here hx rfl (hb hby d10_51) q) ?_
  refine own_tp (.int (101 : Int32)) 55 (fun _ q => XS.bipush X67.here hx rfl (hb hby d10_53) q) ?_
  obtain ⟨cl68, Ar68, q68, S68, Nn68, H68, G68⟩ := (id V67')
  have hin68 : ¬ ((8 : Int32) < 0 ∨ cl68.slots.size ≤ ((8 : Int32)).toNatClampNeg) := inb_of S68 ⟨by decide, by decide⟩
  obtain ⟨T69, h69, X69, e69, W69, st69⟩ := stC X67 hx hZ e67 Ar68 (j := (8 : Int32)) hin68 (g := (mkF m 55 #[.val (.int (0 : Int32))] [(.int (101 : Int32)), (.int (8 : Int32)), (.ref b51), (.ref b51)])) rfl rfl (hb hby d10_55)
  have V69 := Arv.set Ar68 q68 S68 Nn68 H68 G68 (fits_nar_char _) W69 8 rfl (Nat.le_of_ble_eq_true rfl)
  have N69 := Fr.snoc X69 N67 ge51
  have K69 : Keep h0 h69 [] := K67.wr W69 (Or.inr sz51)
  have Z69 : n0 ≤ h69.size := Nat.le_trans Z67 (Nat.le_of_eq W69.size.symm)
  have V69' : Arv Z h69 b51 k51 .char (14 : Int32) [(.int (114 : Int32)), (.int (101 : Int32)), (.int (112 : Int32)), (.int (58 : Int32)), (.int (83 : Int32)), (.int (121 : Int32)), (.int (115 : Int32)), (.int (116 : Int32)), (.int (101 : Int32)), (.int (0 : Int32)), (.int (0 : Int32)), (.int (0 : Int32)), (.int (0 : Int32)), (.int (0 : Int32))] (.int (0 : Int32)) := V69
  refine own_cs [(.ref b51)] 56 st69 ?_
  refine own_tp (.ref b51) 57 (fun _ q => XS.dup X69.here hx rfl (hb hby d10_56) rfl rfl q) ?_
  refine own_tp (.int (9 : Int32)) 59 (fun _ q => XS.bipush X69.here hx rfl (hb hby d10_57) q) ?_
  refine own_tp (.int (109 : Int32)) 61 (fun _ q => XS.bipush X69.here hx rfl (hb hby d10_59) q) ?_
  obtain ⟨cl70, Ar70, q70, S70, Nn70, H70, G70⟩ := (id V69')
  have hin70 : ¬ ((9 : Int32) < 0 ∨ cl70.slots.size ≤ ((9 : Int32)).toNatClampNeg) := inb_of S70 ⟨by decide, by decide⟩
  obtain ⟨T71, h71, X71, e71, W71, st71⟩ := stC X69 hx hZ e69 Ar70 (j := (9 : Int32)) hin70 (g := (mkF m 61 #[.val (.int (0 : Int32))] [(.int (109 : Int32)), (.int (9 : Int32)), (.ref b51), (.ref b51)])) rfl rfl (hb hby d10_61)
  have V71 := Arv.set Ar70 q70 S70 Nn70 H70 G70 (fits_nar_char _) W71 9 rfl (Nat.le_of_ble_eq_true rfl)
  have N71 := Fr.snoc X71 N69 ge51
  have K71 : Keep h0 h71 [] := K69.wr W71 (Or.inr sz51)
  have Z71 : n0 ≤ h71.size := Nat.le_trans Z69 (Nat.le_of_eq W71.size.symm)
  have V71' : Arv Z h71 b51 k51 .char (14 : Int32) [(.int (114 : Int32)), (.int (101 : Int32)), (.int (112 : Int32)), (.int (58 : Int32)), (.int (83 : Int32)), (.int (121 : Int32)), (.int (115 : Int32)), (.int (116 : Int32)), (.int (101 : Int32)), (.int (109 : Int32)), (.int (0 : Int32)), (.int (0 : Int32)), (.int (0 : Int32)), (.int (0 : Int32))] (.int (0 : Int32)) := V71
  refine own_cs [(.ref b51)] 62 st71 ?_
  refine own_tp (.ref b51) 63 (fun _ q => XS.dup X71.here hx rfl (hb hby d10_62) rfl rfl q) ?_
  refine own_tp (.int (10 : Int32)) 65 (fun _ q => XS.bipush X71.here hx rfl (hb hby d10_63) q) ?_
  refine own_tp (.int (85 : Int32)) 67 (fun _ q => XS.bipush X71.here hx rfl (hb hby d10_65) q) ?_
  obtain ⟨cl72, Ar72, q72, S72, Nn72, H72, G72⟩ := (id V71')
  have hin72 : ¬ ((10 : Int32) < 0 ∨ cl72.slots.size ≤ ((10 : Int32)).toNatClampNeg) := inb_of S72 ⟨by decide, by decide⟩
  obtain ⟨T73, h73, X73, e73, W73, st73⟩ := stC X71 hx hZ e71 Ar72 (j := (10 : Int32)) hin72 (g := (mkF m 67 #[.val (.int (0 : Int32))] [(.int (85 : Int32)), (.int (10 : Int32)), (.ref b51), (.ref b51)])) rfl rfl (hb hby d10_67)
  have V73 := Arv.set Ar72 q72 S72 Nn72 H72 G72 (fits_nar_char _) W73 10 rfl (Nat.le_of_ble_eq_true rfl)
  have N73 := Fr.snoc X73 N71 ge51
  have K73 : Keep h0 h73 [] := K71.wr W73 (Or.inr sz51)
  have Z73 : n0 ≤ h73.size := Nat.le_trans Z71 (Nat.le_of_eq W73.size.symm)
  have V73' : Arv Z h73 b51 k51 .char (14 : Int32) [(.int (114 : Int32)), (.int (101 : Int32)), (.int (112 : Int32)), (.int (58 : Int32)), (.int (83 : Int32)), (.int (121 : Int32)), (.int (115 : Int32)), (.int (116 : Int32)), (.int (101 : Int32)), (.int (109 : Int32)), (.int (85 : Int32)), (.int (0 : Int32)), (.int (0 : Int32)), (.int (0 : Int32))] (.int (0 : Int32)) := V73
  refine own_cs [(.ref b51)] 68 st73 ?_
  refine own_tp (.ref b51) 69 (fun _ q => XS.dup X73.here hx rfl (hb hby d10_68) rfl rfl q) ?_
  refine own_tp (.int (11 : Int32)) 71 (fun _ q => XS.bipush X73.here hx rfl (hb hby d10_69) q) ?_
  refine own_tp (.int (115 : Int32)) 73 (fun _ q => XS.bipush X73.here hx rfl (hb hby d10_71) q) ?_
  obtain ⟨cl74, Ar74, q74, S74, Nn74, H74, G74⟩ := (id V73')
  have hin74 : ¬ ((11 : Int32) < 0 ∨ cl74.slots.size ≤ ((11 : Int32)).toNatClampNeg) := inb_of S74 ⟨by decide, by decide⟩
  obtain ⟨T75, h75, X75, e75, W75, st75⟩ := stC X73 hx hZ e73 Ar74 (j := (11 : Int32)) hin74 (g := (mkF m 73 #[.val (.int (0 : Int32))] [(.int (115 : Int32)), (.int (11 : Int32)), (.ref b51), (.ref b51)])) rfl rfl (hb hby d10_73)
  have V75 := Arv.set Ar74 q74 S74 Nn74 H74 G74 (fits_nar_char _) W75 11 rfl (Nat.le_of_ble_eq_true rfl)
  have N75 := Fr.snoc X75 N73 ge51
  have K75 : Keep h0 h75 [] := K73.wr W75 (Or.inr sz51)
  have Z75 : n0 ≤ h75.size := Nat.le_trans Z73 (Nat.le_of_eq W75.size.symm)
  have V75' : Arv Z h75 b51 k51 .char (14 : Int32) [(.int (114 : Int32)), (.int (101 : Int32)), (.int (112 : Int32)), (.int (58 : Int32)), (.int (83 : Int32)), (.int (121 : Int32)), (.int (115 : Int32)), (.int (116 : Int32)), (.int (101 : Int32)), (.int (109 : Int32)), (.int (85 : Int32)), (.int (115 : Int32)), (.int (0 : Int32)), (.int (0 : Int32))] (.int (0 : Int32)) := V75
  refine own_cs [(.ref b51)] 74 st75 ?_
  refine own_tp (.ref b51) 75 (fun _ q => XS.dup X75.here hx rfl (hb hby d10_74) rfl rfl q) ?_
  refine own_tp (.int (12 : Int32)) 77 (fun _ q => XS.bipush X75.here hx rfl (hb hby d10_75) q) ?_
  refine own_tp (.int (101 : Int32)) 79 (fun _ q => XS.bipush X75.here hx rfl (hb hby d10_77) q) ?_
  obtain ⟨cl76, Ar76, q76, S76, Nn76, H76, G76⟩ := (id V75')
  have hin76 : ¬ ((12 : Int32) < 0 ∨ cl76.slots.size ≤ ((12 : Int32)).toNatClampNeg) := inb_of S76 ⟨by decide, by decide⟩
  obtain ⟨T77, h77, X77, e77, W77, st77⟩ := stC X75 hx hZ e75 Ar76 (j := (12 : Int32)) hin76 (g := (mkF m 79 #[.val (.int (0 : Int32))] [(.int (101 : Int32)), (.int (12 : Int32)), (.ref b51), (.ref b51)])) rfl rfl (hb hby d10_79)
  have V77 := Arv.set Ar76 q76 S76 Nn76 H76 G76 (fits_nar_char _) W77 12 rfl (Nat.le_of_ble_eq_true rfl)
  have N77 := Fr.snoc X77 N75 ge51
  have K77 : Keep h0 h77 [] := K75.wr W77 (Or.inr sz51)
  have Z77 : n0 ≤ h77.size := Nat.le_trans Z75 (Nat.le_of_eq W77.size.symm)
  have V77' : Arv Z h77 b51 k51 .char (14 : Int32) [(.int (114 : Int32)), (.int (101 : Int32)), (.int (112 : Int32)), (.int (58 : Int32)), (.int (83 : Int32)), (.int (121 : Int32)), (.int (115 : Int32)), (.int (116 : Int32)), (.int (101 : Int32)), (.int (109 : Int32)), (.int (85 : Int32)), (.int (115 : Int32)), (.int (101 : Int32)), (.int (0 : Int32))] (.int (0 : Int32)) := V77
  refine own_cs [(.ref b51)] 80 st77 ?_
  refine own_tp (.ref b51) 81 (fun _ q => XS.dup X77.here hx rfl (hb hby d10_80) rfl rfl q) ?_
  refine own_tp (.int (13 : Int32)) 83 (fun _ q => XS.bipush X77.here hx rfl (hb hby d10_81) q) ?_
  refine own_tp (.int (114 : Int32)) 85 (fun _ q => XS.bipush X77.here hx rfl (hb hby d10_83) q) ?_
  obtain ⟨cl78, Ar78, q78, S78, Nn78, H78, G78⟩ := (id V77')
  have hin78 : ¬ ((13 : Int32) < 0 ∨ cl78.slots.size ≤ ((13 : Int32)).toNatClampNeg) := inb_of S78 ⟨by decide, by decide⟩
  obtain ⟨T79, h79, X79, e79, W79, st79⟩ := stC X77 hx hZ e77 Ar78 (j := (13 : Int32)) hin78 (g := (mkF m 85 #[.val (.int (0 : Int32))] [(.int (114 : Int32)), (.int (13 : Int32)), (.ref b51), (.ref b51)])) rfl rfl (hb hby d10_85)
  have V79 := Arv.set Ar78 q78 S78 Nn78 H78 G78 (fits_nar_char _) W79 13 rfl (Nat.le_of_ble_eq_true rfl)
  have N79 := Fr.snoc X79 N77 ge51
  have K79 : Keep h0 h79 [] := K77.wr W79 (Or.inr sz51)
  have Z79 : n0 ≤ h79.size := Nat.le_trans Z77 (Nat.le_of_eq W79.size.symm)
  have V79' : Arv Z h79 b51 k51 .char (14 : Int32) [(.int (114 : Int32)), (.int (101 : Int32)), (.int (112 : Int32)), (.int (58 : Int32)), (.int (83 : Int32)), (.int (121 : Int32)), (.int (115 : Int32)), (.int (116 : Int32)), (.int (101 : Int32)), (.int (109 : Int32)), (.int (85 : Int32)), (.int (115 : Int32)), (.int (101 : Int32)), (.int (114 : Int32))] (.int (0 : Int32)) := V79
  refine own_cs [(.ref b51)] 86 st79 ?_
  exact own_retR X79 hx hrt (hb hby d10_86) rfl rfl hlk (by decide) (by decide) e79 (⟨b51, _, rfl, N79, K79, ge51, sz51, V79'⟩)

def Q11 (Z : State) (h0 : Heap) (n0 : Nat) (v : Option Value) (h : Heap) (L : List Loc) : Prop := ∃ (b : Addr) (k : ClassId), v = some (.ref b) ∧ Fr n0 L ∧ Keep h0 h [] ∧ n0 ≤ b ∧ h0.size ≤ b ∧ Arv Z h b k .char (15 : Int32) [(.int (114 : Int32)), (.int (101 : Int32)), (.int (112 : Int32)), (.int (58 : Int32)), (.int (83 : Int32)), (.int (121 : Int32)), (.int (115 : Int32)), (.int (116 : Int32)), (.int (101 : Int32)), (.int (109 : Int32)), (.int (85 : Int32)), (.int (115 : Int32)), (.int (101 : Int32)), (.int (114 : Int32)), (.int (32 : Int32))] (.int (0 : Int32))

theorem d11_0 : decode method_6_code 0 = .ok (.iload_n 0, 1) := by decide +kernel
theorem d11_1 : decode method_6_code 1 = .ok (.ifCond .ne 92, 3) := by decide +kernel
theorem d11_4 : decode method_6_code 4 = .ok (.bipush 15, 2) := by decide +kernel
theorem d11_6 : decode method_6_code 6 = .ok (.newarray .char, 2) := by decide +kernel
theorem d11_8 : decode method_6_code 8 = .ok (.dup, 1) := by decide +kernel
theorem d11_9 : decode method_6_code 9 = .ok (.iconst 0, 1) := by decide +kernel
theorem d11_10 : decode method_6_code 10 = .ok (.bipush 114, 2) := by decide +kernel
theorem d11_12 : decode method_6_code 12 = .ok (.castore, 1) := by decide +kernel
theorem d11_13 : decode method_6_code 13 = .ok (.dup, 1) := by decide +kernel
theorem d11_14 : decode method_6_code 14 = .ok (.iconst 1, 1) := by decide +kernel
theorem d11_15 : decode method_6_code 15 = .ok (.bipush 101, 2) := by decide +kernel
theorem d11_17 : decode method_6_code 17 = .ok (.castore, 1) := by decide +kernel
theorem d11_18 : decode method_6_code 18 = .ok (.dup, 1) := by decide +kernel
theorem d11_19 : decode method_6_code 19 = .ok (.iconst 2, 1) := by decide +kernel
theorem d11_20 : decode method_6_code 20 = .ok (.bipush 112, 2) := by decide +kernel
theorem d11_22 : decode method_6_code 22 = .ok (.castore, 1) := by decide +kernel
theorem d11_23 : decode method_6_code 23 = .ok (.dup, 1) := by decide +kernel
theorem d11_24 : decode method_6_code 24 = .ok (.iconst 3, 1) := by decide +kernel
theorem d11_25 : decode method_6_code 25 = .ok (.bipush 58, 2) := by decide +kernel
theorem d11_27 : decode method_6_code 27 = .ok (.castore, 1) := by decide +kernel
theorem d11_28 : decode method_6_code 28 = .ok (.dup, 1) := by decide +kernel
theorem d11_29 : decode method_6_code 29 = .ok (.iconst 4, 1) := by decide +kernel
theorem d11_30 : decode method_6_code 30 = .ok (.bipush 83, 2) := by decide +kernel
theorem d11_32 : decode method_6_code 32 = .ok (.castore, 1) := by decide +kernel
theorem d11_33 : decode method_6_code 33 = .ok (.dup, 1) := by decide +kernel
theorem d11_34 : decode method_6_code 34 = .ok (.iconst 5, 1) := by decide +kernel
theorem d11_35 : decode method_6_code 35 = .ok (.bipush 121, 2) := by decide +kernel
theorem d11_37 : decode method_6_code 37 = .ok (.castore, 1) := by decide +kernel
theorem d11_38 : decode method_6_code 38 = .ok (.dup, 1) := by decide +kernel
theorem d11_39 : decode method_6_code 39 = .ok (.bipush 6, 2) := by decide +kernel
theorem d11_41 : decode method_6_code 41 = .ok (.bipush 115, 2) := by decide +kernel
theorem d11_43 : decode method_6_code 43 = .ok (.castore, 1) := by decide +kernel
theorem d11_44 : decode method_6_code 44 = .ok (.dup, 1) := by decide +kernel
theorem d11_45 : decode method_6_code 45 = .ok (.bipush 7, 2) := by decide +kernel
theorem d11_47 : decode method_6_code 47 = .ok (.bipush 116, 2) := by decide +kernel
theorem d11_49 : decode method_6_code 49 = .ok (.castore, 1) := by decide +kernel
theorem d11_50 : decode method_6_code 50 = .ok (.dup, 1) := by decide +kernel
theorem d11_51 : decode method_6_code 51 = .ok (.bipush 8, 2) := by decide +kernel
theorem d11_53 : decode method_6_code 53 = .ok (.bipush 101, 2) := by decide +kernel
theorem d11_55 : decode method_6_code 55 = .ok (.castore, 1) := by decide +kernel
theorem d11_56 : decode method_6_code 56 = .ok (.dup, 1) := by decide +kernel
theorem d11_57 : decode method_6_code 57 = .ok (.bipush 9, 2) := by decide +kernel
theorem d11_59 : decode method_6_code 59 = .ok (.bipush 109, 2) := by decide +kernel
theorem d11_61 : decode method_6_code 61 = .ok (.castore, 1) := by decide +kernel
theorem d11_62 : decode method_6_code 62 = .ok (.dup, 1) := by decide +kernel
theorem d11_63 : decode method_6_code 63 = .ok (.bipush 10, 2) := by decide +kernel
theorem d11_65 : decode method_6_code 65 = .ok (.bipush 85, 2) := by decide +kernel
theorem d11_67 : decode method_6_code 67 = .ok (.castore, 1) := by decide +kernel
theorem d11_68 : decode method_6_code 68 = .ok (.dup, 1) := by decide +kernel
theorem d11_69 : decode method_6_code 69 = .ok (.bipush 11, 2) := by decide +kernel
theorem d11_71 : decode method_6_code 71 = .ok (.bipush 115, 2) := by decide +kernel
theorem d11_73 : decode method_6_code 73 = .ok (.castore, 1) := by decide +kernel
theorem d11_74 : decode method_6_code 74 = .ok (.dup, 1) := by decide +kernel
theorem d11_75 : decode method_6_code 75 = .ok (.bipush 12, 2) := by decide +kernel
theorem d11_77 : decode method_6_code 77 = .ok (.bipush 101, 2) := by decide +kernel
theorem d11_79 : decode method_6_code 79 = .ok (.castore, 1) := by decide +kernel
theorem d11_80 : decode method_6_code 80 = .ok (.dup, 1) := by decide +kernel
theorem d11_81 : decode method_6_code 81 = .ok (.bipush 13, 2) := by decide +kernel
theorem d11_83 : decode method_6_code 83 = .ok (.bipush 114, 2) := by decide +kernel
theorem d11_85 : decode method_6_code 85 = .ok (.castore, 1) := by decide +kernel
theorem d11_86 : decode method_6_code 86 = .ok (.dup, 1) := by decide +kernel
theorem d11_87 : decode method_6_code 87 = .ok (.bipush 14, 2) := by decide +kernel
theorem d11_89 : decode method_6_code 89 = .ok (.bipush 32, 2) := by decide +kernel
theorem d11_91 : decode method_6_code 91 = .ok (.castore, 1) := by decide +kernel
theorem d11_92 : decode method_6_code 92 = .ok (.areturn, 1) := by decide +kernel
theorem pn11 : plainName "com/example/leastwise/leastwise/core/AuthorizableTypeOfPinLaw" = true := by first | (simp [plainName, overriddenIn]; done) | decide +kernel
theorem ef11 (m : MethodId) (x0 : Int32) : entryFrame m #[(.int x0)] 1 = mkF m 0 #[.val (.int x0)] [] := by first | (simp [entryFrame, mkF, argsToLocals, Value.category]; done) | rfl
set_option maxRecDepth 65536 in
set_option maxHeartbeats 40000000 in
theorem rm11 (l : Launch) (Z : State) (a0 : Array Value) (hw : ∀ d ∈ tables_1, d.before a0 Z = true) (ws : List Jvm.Cond)  (h0 : Heap) (n0 : Nat) (Z0 : n0 ≤ h0.size) :
    own_Met l (⟨"com/example/leastwise/leastwise/core/AuthorizableTypeOfPinLaw", "extended", "(I)[C"⟩ : MethodName) method_6_code 1 (some (.array .char)) ws ({ frames := 0, cells := 1, slots := 15, locals := 0 } : Room) Z #[(.int (0 : Int32))] h0 (Q11 Z h0 n0) := by
  refine own_enter #[.val (.int (0 : Int32))] (plainFor_of_name pn11) (fun m => ef11 m (0 : Int32)) ?_
  intro p e s m below meth c s₁ hx hby hml hown hnm hZ hrt hlk X0 e0
  have N0 := Fr.nil n0
  refine own_tp (.int (0 : Int32)) 1 (fun _ q => XS.iloadN X0.here hx rfl (hb hby d11_0) rfl q) ?_
  refine own_d1 4 (fun _ q => XS.ifNo X0.here hx rfl (hb hby d11_1) rfl ((if0 _ _).trans (teq (by decide : (0 : Int32) = (0 : Int32))).2) q) ?_
  refine own_tp (.int (15 : Int32)) 6 (fun _ q => XS.bipush X0.here hx rfl (hb hby d11_4) q) ?_
  obtain ⟨T51, h51, k51, X51, e51, E51, A51, st51⟩ := newP X0 hx hZ (hw _ (List.mem_of_getElem? (i := 8) rfl)) e0 (g := (mkF m 6 #[.val (.int (0 : Int32))] [(.int (15 : Int32))])) rfl (hb hby d11_6) rfl (by decide) (cap := 15) (by decide) (by decide) (by decide) (by decide)
  obtain ⟨b51, g51⟩ : ∃ z, z = h0.size := ⟨_, rfl⟩
  rw [← g51] at A51 st51
  have V51 : Arv Z h51 b51 k51 .char (15 : Int32) [(.int (0 : Int32)), (.int (0 : Int32)), (.int (0 : Int32)), (.int (0 : Int32)), (.int (0 : Int32)), (.int (0 : Int32)), (.int (0 : Int32)), (.int (0 : Int32)), (.int (0 : Int32)), (.int (0 : Int32)), (.int (0 : Int32)), (.int (0 : Int32)), (.int (0 : Int32)), (.int (0 : Int32)), (.int (0 : Int32))] (.int (0 : Int32)) := (Arv.new A51 (by decide)).pad (pad_rep [] (.int (0 : Int32)) 15)
  have ge51 : n0 ≤ b51 := Nat.le_trans Z0 (Nat.le_of_eq g51.symm)
  have sz51 : h0.size ≤ b51 := Nat.le_trans (Keep.refl h0 []).1 (Nat.le_of_eq g51.symm)
  have K51 : Keep h0 h51 [] := (Keep.refl h0 []).ext E51
  have Z51 : n0 ≤ h51.size := Nat.le_trans Z0 E51.1
  refine own_t1 (.ref b51) 8 st51 ?_
  refine own_tp (.ref b51) 9 (fun _ q => XS.dup X51.here hx rfl (hb hby d11_8) rfl rfl q) ?_
  refine own_tp (.int (0 : Int32)) 10 (fun _ q => XS.iconst X51.here hx rfl (hb hby d11_9) q) ?_
  refine own_tp (.int (114 : Int32)) 12 (fun _ q => XS.bipush X51.here hx rfl (hb hby d11_10) q) ?_
  obtain ⟨cl52, Ar52, q52, S52, Nn52, H52, G52⟩ := (id V51)
  have hin52 : ¬ ((0 : Int32) < 0 ∨ cl52.slots.size ≤ ((0 : Int32)).toNatClampNeg) := inb_of S52 ⟨by decide, by decide⟩
  obtain ⟨T53, h53, X53, e53, W53, st53⟩ := stC X51 hx hZ e51 Ar52 (j := (0 : Int32)) hin52 (g := (mkF m 12 #[.val (.int (0 : Int32))] [(.int (114 : Int32)), (.int (0 : Int32)), (.ref b51), (.ref b51)])) rfl rfl (hb hby d11_12)
  have V53 := Arv.set Ar52 q52 S52 Nn52 H52 G52 (fits_nar_char _) W53 0 rfl (Nat.le_of_ble_eq_true rfl)
  have N53 := Fr.snoc X53 N0 ge51
  have K53 : Keep h0 h53 [] := K51.wr W53 (Or.inr sz51)
  have Z53 : n0 ≤ h53.size := Nat.le_trans Z51 (Nat.le_of_eq W53.size.symm)
  have V53' : Arv Z h53 b51 k51 .char (15 : Int32) [(.int (114 : Int32)), (.int (0 : Int32)), (.int (0 : Int32)), (.int (0 : Int32)), (.int (0 : Int32)), (.int (0 : Int32)), (.int (0 : Int32)), (.int (0 : Int32)), (.int (0 : Int32)), (.int (0 : Int32)), (.int (0 : Int32)), (.int (0 : Int32)), (.int (0 : Int32)), (.int (0 : Int32)), (.int (0 : Int32))] (.int (0 : Int32)) := V53
  refine own_cs [(.ref b51)] 13 st53 ?_
  refine own_tp (.ref b51) 14 (fun _ q => XS.dup X53.here hx rfl (hb hby d11_13) rfl rfl q) ?_
  refine own_tp (.int (1 : Int32)) 15 (fun _ q => XS.iconst X53.here hx rfl (hb hby d11_14) q) ?_
  refine own_tp (.int (101 : Int32)) 17 (fun _ q => XS.bipush X53.here hx rfl (hb hby d11_15) q) ?_
  obtain ⟨cl54, Ar54, q54, S54, Nn54, H54, G54⟩ := (id V53')
  have hin54 : ¬ ((1 : Int32) < 0 ∨ cl54.slots.size ≤ ((1 : Int32)).toNatClampNeg) := inb_of S54 ⟨by decide, by decide⟩
  obtain ⟨T55, h55, X55, e55, W55, st55⟩ := stC X53 hx hZ e53 Ar54 (j := (1 : Int32)) hin54 (g := (mkF m 17 #[.val (.int (0 : Int32))] [(.int (101 : Int32)), (.int (1 : Int32)), (.ref b51), (.ref b51)])) rfl rfl (hb hby d11_17)
  have V55 := Arv.set Ar54 q54 S54 Nn54 H54 G54 (fits_nar_char _) W55 1 rfl (Nat.le_of_ble_eq_true rfl)
  have N55 := Fr.snoc X55 N53 ge51
  have K55 : Keep h0 h55 [] := K53.wr W55 (Or.inr sz51)
  have Z55 : n0 ≤ h55.size := Nat.le_trans Z53 (Nat.le_of_eq W55.size.symm)
  have V55' : Arv Z h55 b51 k51 .char (15 : Int32) [(.int (114 : Int32)), (.int (101 : Int32)), (.int (0 : Int32)), (.int (0 : Int32)), (.int (0 : Int32)), (.int (0 : Int32)), (.int (0 : Int32)), (.int (0 : Int32)), (.int (0 : Int32)), (.int (0 : Int32)), (.int (0 : Int32)), (.int (0 : Int32)), (.int (0 : Int32)), (.int (0 : Int32)), (.int (0 : Int32))] (.int (0 : Int32)) := V55
  refine own_cs [(.ref b51)] 18 st55 ?_
  refine own_tp (.ref b51) 19 (fun _ q => XS.dup X55.here hx rfl (hb hby d11_18) rfl rfl q) ?_
  refine own_tp (.int (2 : Int32)) 20 (fun _ q => XS.iconst X55.here hx rfl (hb hby d11_19) q) ?_
  refine own_tp (.int (112 : Int32)) 22 (fun _ q => XS.bipush X55.here hx rfl (hb hby d11_20) q) ?_
  obtain ⟨cl56, Ar56, q56, S56, Nn56, H56, G56⟩ := (id V55')
  have hin56 : ¬ ((2 : Int32) < 0 ∨ cl56.slots.size ≤ ((2 : Int32)).toNatClampNeg) := inb_of S56 ⟨by decide, by decide⟩
  obtain ⟨T57, h57, X57, e57, W57, st57⟩ := stC X55 hx hZ e55 Ar56 (j := (2 : Int32)) hin56 (g := (mkF m 22 #[.val (.int (0 : Int32))] [(.int (112 : Int32)), (.int (2 : Int32)), (.ref b51), (.ref b51)])) rfl rfl (hb hby d11_22)
  have V57 := Arv.set Ar56 q56 S56 Nn56 H56 G56 (fits_nar_char _) W57 2 rfl (Nat.le_of_ble_eq_true rfl)
  have N57 := Fr.snoc X57 N55 ge51
  have K57 : Keep h0 h57 [] := K55.wr W57 (Or.inr sz51)
  have Z57 : n0 ≤ h57.size := Nat.le_trans Z55 (Nat.le_of_eq W57.size.symm)
  have V57' : Arv Z h57 b51 k51 .char (15 : Int32) [(.int (114 : Int32)), (.int (101 : Int32)), (.int (112 : Int32)), (.int (0 : Int32)), (.int (0 : Int32)), (.int (0 : Int32)), (.int (0 : Int32)), (.int (0 : Int32)), (.int (0 : Int32)), (.int (0 : Int32)), (.int (0 : Int32)), (.int (0 : Int32)), (.int (0 : Int32)), (.int (0 : Int32)), (.int (0 : Int32))] (.int (0 : Int32)) := V57
  refine own_cs [(.ref b51)] 23 st57 ?_
  refine own_tp (.ref b51) 24 (fun _ q => XS.dup X57.here hx rfl (hb hby d11_23) rfl rfl q) ?_
  refine own_tp (.int (3 : Int32)) 25 (fun _ q => XS.iconst X57.here hx rfl (hb hby d11_24) q) ?_
  refine own_tp (.int (58 : Int32)) 27 (fun _ q => XS.bipush X57.here hx rfl (hb hby d11_25) q) ?_
  obtain ⟨cl58, Ar58, q58, S58, Nn58, H58, G58⟩ := (id V57')
  have hin58 : ¬ ((3 : Int32) < 0 ∨ cl58.slots.size ≤ ((3 : Int32)).toNatClampNeg) := inb_of S58 ⟨by decide, by decide⟩
  obtain ⟨T59, h59, X59, e59, W59, st59⟩ := stC X57 hx hZ e57 Ar58 (j := (3 : Int32)) hin58 (g := (mkF m 27 #[.val (.int (0 : Int32))] [(.int (58 : Int32)), (.int (3 : Int32)), (.ref b51), (.ref b51)])) rfl rfl (hb hby d11_27)
  have V59 := Arv.set Ar58 q58 S58 Nn58 H58 G58 (fits_nar_char _) W59 3 rfl (Nat.le_of_ble_eq_true rfl)
  have N59 := Fr.snoc X59 N57 ge51
  have K59 : Keep h0 h59 [] := K57.wr W59 (Or.inr sz51)
  have Z59 : n0 ≤ h59.size := Nat.le_trans Z57 (Nat.le_of_eq W59.size.symm)
  have V59' : Arv Z h59 b51 k51 .char (15 : Int32) [(.int (114 : Int32)), (.int (101 : Int32)), (.int (112 : Int32)), (.int (58 : Int32)), (.int (0 : Int32)), (.int (0 : Int32)), (.int (0 : Int32)), (.int (0 : Int32)), (.int (0 : Int32)), (.int (0 : Int32)), (.int (0 : Int32)), (.int (0 : Int32)), (.int (0 : Int32)), (.int (0 : Int32)), (.int (0 : Int32))] (.int (0 : Int32)) := V59
  refine own_cs [(.ref b51)] 28 st59 ?_
  refine own_tp (.ref b51) 29 (fun _ q => XS.dup X59.here hx rfl (hb hby d11_28) rfl rfl q) ?_
  refine own_tp (.int (4 : Int32)) 30 (fun _ q => XS.iconst X59.here hx rfl (hb hby d11_29) q) ?_
  refine own_tp (.int (83 : Int32)) 32 (fun _ q => XS.bipush X59.here hx rfl (hb hby d11_30) q) ?_
  obtain ⟨cl60, Ar60, q60, S60, Nn60, H60, G60⟩ := (id V59')
  have hin60 : ¬ ((4 : Int32) < 0 ∨ cl60.slots.size ≤ ((4 : Int32)).toNatClampNeg) := inb_of S60 ⟨by decide, by decide⟩
  obtain ⟨T61, h61, X61, e61, W61, st61⟩ := stC X59 hx hZ e59 Ar60 (j := (4 : Int32)) hin60 (g := (mkF m 32 #[.val (.int (0 : Int32))] [(.int (83 : Int32)), (.int (4 : Int32)), (.ref b51), (.ref b51)])) rfl rfl (hb hby d11_32)
  have V61 := Arv.set Ar60 q60 S60 Nn60 H60 G60 (fits_nar_char _) W61 4 rfl (Nat.le_of_ble_eq_true rfl)
  have N61 := Fr.snoc X61 N59 ge51
  have K61 : Keep h0 h61 [] := K59.wr W61 (Or.inr sz51)
  have Z61 : n0 ≤ h61.size := Nat.le_trans Z59 (Nat.le_of_eq W61.size.symm)
  have V61' : Arv Z h61 b51 k51 .char (15 : Int32) [(.int (114 : Int32)), (.int (101 : Int32)), (.int (112 : Int32)), (.int (58 : Int32)), (.int (83 : Int32)), (.int (0 : Int32)), (.int (0 : Int32)), (.int (0 : Int32)), (.int (0 : Int32)), (.int (0 : Int32)), (.int (0 : Int32)), (.int (0 : Int32)), (.int (0 : Int32)), (.int (0 : Int32)), (.int (0 : Int32))] (.int (0 : Int32)) := V61
  refine own_cs [(.ref b51)] 33 st61 ?_
  refine own_tp (.ref b51) 34 (fun _ q => XS.dup X61.here hx rfl (hb hby d11_33) rfl rfl q) ?_
  refine own_tp (.int (5 : Int32)) 35 (fun _ q => XS.iconst X61.here hx rfl (hb hby d11_34) q) ?_
  refine own_tp (.int (121 : Int32)) 37 (fun _ q => XS.bipush X61.here hx rfl (hb hby d11_35) q) ?_
  obtain ⟨cl62, Ar62, q62, S62, Nn62, H62, G62⟩ := (id V61')
  have hin62 : ¬ ((5 : Int32) < 0 ∨ cl62.slots.size ≤ ((5 : Int32)).toNatClampNeg) := inb_of S62 ⟨by decide, by decide⟩
  obtain ⟨T63, h63, X63, e63, W63, st63⟩ := stC X61 hx hZ e61 Ar62 (j := (5 : Int32)) hin62 (g := (mkF m 37 #[.val (.int (0 : Int32))] [(.int (121 : Int32)), (.int (5 : Int32)), (.ref b51), (.ref b51)])) rfl rfl (hb hby d11_37)
  have V63 := Arv.set Ar62 q62 S62 Nn62 H62 G62 (fits_nar_char _) W63 5 rfl (Nat.le_of_ble_eq_true rfl)
  have N63 := Fr.snoc X63 N61 ge51
  have K63 : Keep h0 h63 [] := K61.wr W63 (Or.inr sz51)
  have Z63 : n0 ≤ h63.size := Nat.le_trans Z61 (Nat.le_of_eq W63.size.symm)
  have V63' : Arv Z h63 b51 k51 .char (15 : Int32) [(.int (114 : Int32)), (.int (101 : Int32)), (.int (112 : Int32)), (.int (58 : Int32)), (.int (83 : Int32)), (.int (121 : Int32)), (.int (0 : Int32)), (.int (0 : Int32)), (.int (0 : Int32)), (.int (0 : Int32)), (.int (0 : Int32)), (.int (0 : Int32)), (.int (0 : Int32)), (.int (0 : Int32)), (.int (0 : Int32))] (.int (0 : Int32)) := V63
  refine own_cs [(.ref b51)] 38 st63 ?_
  refine own_tp (.ref b51) 39 (fun _ q => XS.dup X63.here hx rfl (hb hby d11_38) rfl rfl q) ?_
  refine own_tp (.int (6 : Int32)) 41 (fun _ q => XS.bipush X63.here hx rfl (hb hby d11_39) q) ?_
  refine own_tp (.int (115 : Int32)) 43 (fun _ q => XS.bipush X63.here hx rfl (hb hby d11_41) q) ?_
  obtain ⟨cl64, Ar64, q64, S64, Nn64, H64, G64⟩ := (id V63')
  have hin64 : ¬ ((6 : Int32) < 0 ∨ cl64.slots.size ≤ ((6 : Int32)).toNatClampNeg) := inb_of S64 ⟨by decide, by decide⟩
  obtain ⟨T65, h65, X65, e65, W65, st65⟩ := stC X63 hx hZ e63 Ar64 (j := (6 : Int32)) hin64 (g := (mkF m 43 #[.val (.int (0 : Int32))] [(.int (115 : Int32)), (.int (6 : Int32)), (.ref b51), (.ref b51)])) rfl rfl (hb hby d11_43)
  have V65 := Arv.set Ar64 q64 S64 Nn64 H64 G64 (fits_nar_char _) W65 6 rfl (Nat.le_of_ble_eq_true rfl)
  have N65 := Fr.snoc X65 N63 ge51
  have K65 : Keep h0 h65 [] := K63.wr W65 (Or.inr sz51)
  have Z65 : n0 ≤ h65.size := Nat.le_trans Z63 (Nat.le_of_eq W65.size.symm)
  have V65' : Arv Z h65 b51 k51 .char (15 : Int32) [(.int (114 : Int32)), (.int (101 : Int32)), (.int (112 : Int32)), (.int (58 : Int32)), (.int (83 : Int32)), (.int (121 : Int32)), (.int (115 : Int32)), (.int (0 : Int32)), (.int (0 : Int32)), (.int (0 : Int32)), (.int (0 : Int32)), (.int (0 : Int32)), (.int (0 : Int32)), (.int (0 : Int32)), (.int (0 : Int32))] (.int (0 : Int32)) := V65
  refine own_cs [(.ref b51)] 44 st65 ?_
  refine own_tp (.ref b51) 45 (fun _ q => XS.dup X65.here hx rfl (hb hby d11_44) rfl rfl q) ?_
  refine own_tp (.int (7 : Int32)) 47 (fun _ q => XS.bipush X65.here hx rfl (hb hby d11_45) q) ?_
  refine own_tp (.int (116 : Int32)) 49 (fun _ q => XS.bipush X65.here hx rfl (hb hby d11_47) q) ?_
  obtain ⟨cl66, Ar66, q66, S66, Nn66, H66, G66⟩ := (id V65')
  have hin66 : ¬ ((7 : Int32) < 0 ∨ cl66.slots.size ≤ ((7 : Int32)).toNatClampNeg) := inb_of S66 ⟨by decide, by decide⟩
  obtain ⟨T67, h67, X67, e67, W67, st67⟩ := stC X65 hx hZ e65 Ar66 (j := (7 : Int32)) hin66 (g := (mkF m 49 #[.val (.int (0 : Int32))] [(.int (116 : Int32)), (.int (7 : Int32)), (.ref b51), (.ref b51)])) rfl rfl (hb hby d11_49)
  have V67 := Arv.set Ar66 q66 S66 Nn66 H66 G66 (fits_nar_char _) W67 7 rfl (Nat.le_of_ble_eq_true rfl)
  have N67 := Fr.snoc X67 N65 ge51
  have K67 : Keep h0 h67 [] := K65.wr W67 (Or.inr sz51)
  have Z67 : n0 ≤ h67.size := Nat.le_trans Z65 (Nat.le_of_eq W67.size.symm)
  have V67' : Arv Z h67 b51 k51 .char (15 : Int32) [(.int (114 : Int32)), (.int (101 : Int32)), (.int (112 : Int32)), (.int (58 : Int32)), (.int (83 : Int32)), (.int (121 : Int32)), (.int (115 : Int32)), (.int (116 : Int32)), (.int (0 : Int32)), (.int (0 : Int32)), (.int (0 : Int32)), (.int (0 : Int32)), (.int (0 : Int32)), (.int (0 : Int32)), (.int (0 : Int32))] (.int (0 : Int32)) := V67
  refine own_cs [(.ref b51)] 50 st67 ?_
  refine own_tp (.ref b51) 51 (fun _ q => XS.dup X67.here hx rfl (hb hby d11_50) rfl rfl q) ?_
  refine own_tp (.int (8 : Int32)) 53 (fun _ q => XS.bipush X67.here hx rfl (hb hby d11_51) q) ?_
  refine own_tp (.int (101 : Int32)) 55 (fun _ q => XS.bipush X67.here hx rfl (hb hby d11_53) q) ?_
  obtain ⟨cl68, Ar68, q68, S68, Nn68, H68, G68⟩ := (id V67')
  have hin68 : ¬ ((8 : Int32) < 0 ∨ cl68.slots.size ≤ ((8 : Int32)).toNatClampNeg) := inb_of S68 ⟨by decide, by decide⟩
  obtain ⟨T69, h69, X69, e69, W69, st69⟩ := stC X67 hx hZ e67 Ar68 (j := (8 : Int32)) hin68 (g := (mkF m 55 #[.val (.int (0 : Int32))] [(.int (101 : Int32)), (.int (8 : Int32)), (.ref b51), (.ref b51)])) rfl rfl (hb hby d11_55)
  have V69 := Arv.set Ar68 q68 S68 Nn68 H68 G68 (fits_nar_char _) W69 8 rfl (Nat.le_of_ble_eq_true rfl)
  have N69 := Fr.snoc X69 N67 ge51
  have K69 : Keep h0 h69 [] := K67.wr W69 (Or.inr sz51)
  have Z69 : n0 ≤ h69.size := Nat.le_trans Z67 (Nat.le_of_eq W69.size.symm)
  have V69' : Arv Z h69 b51 k51 .char (15 : Int32) [(.int (114 : Int32)), (.int (101 : Int32)), (.int (112 : Int32)), (.int (58 : Int32)), (.int (83 : Int32)), (.int (121 : Int32)), (.int (115 : Int32)), (.int (116 : Int32)), (.int (101 : Int32)), (.int (0 : Int32)), (.int (0 : Int32)), (.int (0 : Int32)), (.int (0 : Int32)), (.int (0 : Int32)), (.int (0 : Int32))] (.int (0 : Int32)) := V69
  refine own_cs [(.ref b51)] 56 st69 ?_
  refine own_tp (.ref b51) 57 (fun _ q => XS.dup X69.here hx rfl (hb hby d11_56) rfl rfl q) ?_
  refine own_tp (.int (9 : Int32)) 59 (fun _ q => XS.bipush X69.here hx rfl (hb hby d11_57) q) ?_
  refine own_tp (.int (109 : Int32)) 61 (fun _ q => XS.bipush X69.here hx rfl (hb hby d11_59) q) ?_
  obtain ⟨cl70, Ar70, q70, S70, Nn70, H70, G70⟩ := (id V69')
  have hin70 : ¬ ((9 : Int32) < 0 ∨ cl70.slots.size ≤ ((9 : Int32)).toNatClampNeg) := inb_of S70 ⟨by decide, by decide⟩
  obtain ⟨T71, h71, X71, e71, W71, st71⟩ := stC X69 hx hZ e69 Ar70 (j := (9 : Int32)) hin70 (g := (mkF m 61 #[.val (.int (0 : Int32))] [(.int (109 : Int32)), (.int (9 : Int32)), (.ref b51), (.ref b51)])) rfl rfl (hb hby d11_61)
  have V71 := Arv.set Ar70 q70 S70 Nn70 H70 G70 (fits_nar_char _) W71 9 rfl (Nat.le_of_ble_eq_true rfl)
  have N71 := Fr.snoc X71 N69 ge51
  have K71 : Keep h0 h71 [] := K69.wr W71 (Or.inr sz51)
  have Z71 : n0 ≤ h71.size := Nat.le_trans Z69 (Nat.le_of_eq W71.size.symm)
  have V71' : Arv Z h71 b51 k51 .char (15 : Int32) [(.int (114 : Int32)), (.int (101 : Int32)), (.int (112 : Int32)), (.int (58 : Int32)), (.int (83 : Int32)), (.int (121 : Int32)), (.int (115 : Int32)), (.int (116 : Int32)), (.int (101 : Int32)), (.int (109 : Int32)), (.int (0 : Int32)), (.int (0 : Int32)), (.int (0 : Int32)), (.int (0 : Int32)), (.int (0 : Int32))] (.int (0 : Int32)) := V71
  refine own_cs [(.ref b51)] 62 st71 ?_
  refine own_tp (.ref b51) 63 (fun _ q => XS.dup X71.here hx rfl (hb hby d11_62) rfl rfl q) ?_
  refine own_tp (.int (10 : Int32)) 65 (fun _ q => XS.bipush X71.here hx rfl (hb hby d11_63) q) ?_
  refine own_tp (.int (85 : Int32)) 67 (fun _ q => XS.bipush X71.here hx rfl (hb hby d11_65) q) ?_
  obtain ⟨cl72, Ar72, q72, S72, Nn72, H72, G72⟩ := (id V71')
  have hin72 : ¬ ((10 : Int32) < 0 ∨ cl72.slots.size ≤ ((10 : Int32)).toNatClampNeg) := inb_of S72 ⟨by decide, by decide⟩
  obtain ⟨T73, h73, X73, e73, W73, st73⟩ := stC X71 hx hZ e71 Ar72 (j := (10 : Int32)) hin72 (g := (mkF m 67 #[.val (.int (0 : Int32))] [(.int (85 : Int32)), (.int (10 : Int32)), (.ref b51), (.ref b51)])) rfl rfl (hb hby d11_67)
  have V73 := Arv.set Ar72 q72 S72 Nn72 H72 G72 (fits_nar_char _) W73 10 rfl (Nat.le_of_ble_eq_true rfl)
  have N73 := Fr.snoc X73 N71 ge51
  have K73 : Keep h0 h73 [] := K71.wr W73 (Or.inr sz51)
  have Z73 : n0 ≤ h73.size := Nat.le_trans Z71 (Nat.le_of_eq W73.size.symm)
  have V73' : Arv Z h73 b51 k51 .char (15 : Int32) [(.int (114 : Int32)), (.int (101 : Int32)), (.int (112 : Int32)), (.int (58 : Int32)), (.int (83 : Int32)), (.int (121 : Int32)), (.int (115 : Int32)), (.int (116 : Int32)), (.int (101 : Int32)), (.int (109 : Int32)), (.int (85 : Int32)), (.int (0 : Int32)), (.int (0 : Int32)), (.int (0 : Int32)), (.int (0 : Int32))] (.int (0 : Int32)) := V73
  refine own_cs [(.ref b51)] 68 st73 ?_
  refine own_tp (.ref b51) 69 (fun _ q => XS.dup X73.here hx rfl (hb hby d11_68) rfl rfl q) ?_
  refine own_tp (.int (11 : Int32)) 71 (fun _ q => XS.bipush X73.here hx rfl (hb hby d11_69) q) ?_
  refine own_tp (.int (115 : Int32)) 73 (fun _ q => XS.bipush X73.here hx rfl (hb hby d11_71) q) ?_
  obtain ⟨cl74, Ar74, q74, S74, Nn74, H74, G74⟩ := (id V73')
  have hin74 : ¬ ((11 : Int32) < 0 ∨ cl74.slots.size ≤ ((11 : Int32)).toNatClampNeg) := inb_of S74 ⟨by decide, by decide⟩
  obtain ⟨T75, h75, X75, e75, W75, st75⟩ := stC X73 hx hZ e73 Ar74 (j := (11 : Int32)) hin74 (g := (mkF m 73 #[.val (.int (0 : Int32))] [(.int (115 : Int32)), (.int (11 : Int32)), (.ref b51), (.ref b51)])) rfl rfl (hb hby d11_73)
  have V75 := Arv.set Ar74 q74 S74 Nn74 H74 G74 (fits_nar_char _) W75 11 rfl (Nat.le_of_ble_eq_true rfl)
  have N75 := Fr.snoc X75 N73 ge51
  have K75 : Keep h0 h75 [] := K73.wr W75 (Or.inr sz51)
  have Z75 : n0 ≤ h75.size := Nat.le_trans Z73 (Nat.le_of_eq W75.size.symm)
  have V75' : Arv Z h75 b51 k51 .char (15 : Int32) [(.int (114 : Int32)), (.int (101 : Int32)), (.int (112 : Int32)), (.int (58 : Int32)), (.int (83 : Int32)), (.int (121 : Int32)), (.int (115 : Int32)), (.int (116 : Int32)), (.int (101 : Int32)), (.int (109 : Int32)), (.int (85 : Int32)), (.int (115 : Int32)), (.int (0 : Int32)), (.int (0 : Int32)), (.int (0 : Int32))] (.int (0 : Int32)) := V75
  refine own_cs [(.ref b51)] 74 st75 ?_
  refine own_tp (.ref b51) 75 (fun _ q => XS.dup X75.here hx rfl (hb hby d11_74) rfl rfl q) ?_
  refine own_tp (.int (12 : Int32)) 77 (fun _ q => XS.bipush X75.here hx rfl (hb hby d11_75) q) ?_
  refine own_tp (.int (101 : Int32)) 79 (fun _ q => XS.bipush X75.here hx rfl (hb hby d11_77) q) ?_
  obtain ⟨cl76, Ar76, q76, S76, Nn76, H76, G76⟩ := (id V75')
  have hin76 : ¬ ((12 : Int32) < 0 ∨ cl76.slots.size ≤ ((12 : Int32)).toNatClampNeg) := inb_of S76 ⟨by decide, by decide⟩
  obtain ⟨T77, h77, X77, e77, W77, st77⟩ := stC X75 hx hZ e75 Ar76 (j := (12 : Int32)) hin76 (g := (mkF m 79 #[.val (.int (0 : Int32))] [(.int (101 : Int32)), (.int (12 : Int32)), (.ref b51), (.ref b51)])) rfl rfl (hb hby d11_79)
  have V77 := Arv.set Ar76 q76 S76 Nn76 H76 G76 (fits_nar_char _) W77 12 rfl (Nat.le_of_ble_eq_true rfl)
  have N77 := Fr.snoc X77 N75 ge51
  have K77 : Keep h0 h77 [] := K75.wr W77 (Or.inr sz51)
  have Z77 : n0 ≤ h77.size := Nat.le_trans Z75 (Nat.le_of_eq W77.size.symm)
  have V77' : Arv Z h77 b51 k51 .char (15 : Int32) [(.int (114 : Int32)), (.int (101 : Int32)), (.int (112 : Int32)), (.int (58 : Int32)), (.int (83 : Int32)), (.int (121 : Int32)), (.int (115 : Int32)), (.int (116 : Int32)), (.int (101 : Int32)), (.int (109 : Int32)), (.int (85 : Int32)), (.int (115 : Int32)), (.int (101 : Int32)), (.int (0 : Int32)), (.int (0 : Int32))] (.int (0 : Int32)) := V77
  refine own_cs [(.ref b51)] 80 st77 ?_
  refine own_tp (.ref b51) 81 (fun _ q => XS.dup X77.here hx rfl (hb hby d11_80) rfl rfl q) ?_
  refine own_tp (.int (13 : Int32)) 83 (fun _ q => XS.bipush X77.here hx rfl (hb hby d11_81) q) ?_
  refine own_tp (.int (114 : Int32)) 85 (fun _ q => XS.bipush X77.here hx rfl (hb hby d11_83) q) ?_
  obtain ⟨cl78, Ar78, q78, S78, Nn78, H78, G78⟩ := (id V77')
  have hin78 : ¬ ((13 : Int32) < 0 ∨ cl78.slots.size ≤ ((13 : Int32)).toNatClampNeg) := inb_of S78 ⟨by decide, by decide⟩
  obtain ⟨T79, h79, X79, e79, W79, st79⟩ := stC X77 hx hZ e77 Ar78 (j := (13 : Int32)) hin78 (g := (mkF m 85 #[.val (.int (0 : Int32))] [(.int (114 : Int32)), (.int (13 : Int32)), (.ref b51), (.ref b51)])) rfl rfl (hb hby d11_85)
  have V79 := Arv.set Ar78 q78 S78 Nn78 H78 G78 (fits_nar_char _) W79 13 rfl (Nat.le_of_ble_eq_true rfl)
  have N79 := Fr.snoc X79 N77 ge51
  have K79 : Keep h0 h79 [] := K77.wr W79 (Or.inr sz51)
  have Z79 : n0 ≤ h79.size := Nat.le_trans Z77 (Nat.le_of_eq W79.size.symm)
  have V79' : Arv Z h79 b51 k51 .char (15 : Int32) [(.int (114 : Int32)), (.int (101 : Int32)), (.int (112 : Int32)), (.int (58 : Int32)), (.int (83 : Int32)), (.int (121 : Int32)), (.int (115 : Int32)), (.int (116 : Int32)), (.int (101 : Int32)), (.int (109 : Int32)), (.int (85 : Int32)), (.int (115 : Int32)), (.int (101 : Int32)), (.int (114 : Int32)), (.int (0 : Int32))] (.int (0 : Int32)) := V79
  refine own_cs [(.ref b51)] 86 st79 ?_
  refine own_tp (.ref b51) 87 (fun _ q => XS.dup X79.here hx rfl (hb hby d11_86) rfl rfl q) ?_
  refine own_tp (.int (14 : Int32)) 89 (fun _ q => XS.bipush X79.here hx rfl (hb hby d11_87) q) ?_
  refine own_tp (.int (32 : Int32)) 91 (fun _ q => XS.bipush X79.here hx rfl (hb hby d11_89) q) ?_
  obtain ⟨cl80, Ar80, q80, S80, Nn80, H80, G80⟩ := (id V79')
  have hin80 : ¬ ((14 : Int32) < 0 ∨ cl80.slots.size ≤ ((14 : Int32)).toNatClampNeg) := inb_of S80 ⟨by decide, by decide⟩
  obtain ⟨T81, h81, X81, e81, W81, st81⟩ := stC X79 hx hZ e79 Ar80 (j := (14 : Int32)) hin80 (g := (mkF m 91 #[.val (.int (0 : Int32))] [(.int (32 : Int32)), (.int (14 : Int32)), (.ref b51), (.ref b51)])) rfl rfl (hb hby d11_91)
  have V81 := Arv.set Ar80 q80 S80 Nn80 H80 G80 (fits_nar_char _) W81 14 rfl (Nat.le_of_ble_eq_true rfl)
  have N81 := Fr.snoc X81 N79 ge51
  have K81 : Keep h0 h81 [] := K79.wr W81 (Or.inr sz51)
  have Z81 : n0 ≤ h81.size := Nat.le_trans Z79 (Nat.le_of_eq W81.size.symm)
  have V81' : Arv Z h81 b51 k51 .char (15 : Int32) [(.int (114 : Int32)), (.int (101 : Int32)), (.int (112 : Int32)), (.int (58 : Int32)), (.int (83 : Int32)), (.int (121 : Int32)), (.int (115 : Int32)), (.int (116 : Int32)), (.int (101 : Int32)), (.int (109 : Int32)), (.int (85 : Int32)), (.int (115 : Int32)), (.int (101 : Int32)), (.int (114 : Int32)), (.int (32 : Int32))] (.int (0 : Int32)) := V81
  refine own_cs [(.ref b51)] 92 st81 ?_
  exact own_retR X81 hx hrt (hb hby d11_92) rfl rfl hlk (by decide) (by decide) e81 (⟨b51, _, rfl, N81, K81, ge51, sz51, V81'⟩)

def Q12 (Z : State) (h0 : Heap) (n0 : Nat) (v : Option Value) (h : Heap) (L : List Loc) : Prop := ∃ (b : Addr) (k : ClassId), v = some (.ref b) ∧ Fr n0 L ∧ Keep h0 h [] ∧ n0 ≤ b ∧ h0.size ≤ b ∧ Arv Z h b k .char (13 : Int32) [(.int (101 : Int32)), (.int (112 : Int32)), (.int (58 : Int32)), (.int (83 : Int32)), (.int (121 : Int32)), (.int (115 : Int32)), (.int (116 : Int32)), (.int (101 : Int32)), (.int (109 : Int32)), (.int (85 : Int32)), (.int (115 : Int32)), (.int (101 : Int32)), (.int (114 : Int32))] (.int (0 : Int32))

theorem d12_0 : decode method_7_code 0 = .ok (.iload_n 1, 1) := by decide +kernel
theorem d12_1 : decode method_7_code 1 = .ok (.ifCond .eq 177, 3) := by decide +kernel
theorem d12_4 : decode method_7_code 4 = .ok (.iload_n 0, 1) := by decide +kernel
theorem d12_5 : decode method_7_code 5 = .ok (.ifCond .ne 80, 3) := by decide +kernel
theorem d12_8 : decode method_7_code 8 = .ok (.bipush 13, 2) := by decide +kernel
theorem d12_10 : decode method_7_code 10 = .ok (.newarray .char, 2) := by decide +kernel
theorem d12_12 : decode method_7_code 12 = .ok (.dup, 1) := by decide +kernel
theorem d12_13 : decode method_7_code 13 = .ok (.iconst 0, 1) := by decide +kernel
theorem d12_14 : decode method_7_code 14 = .ok (.bipush 101, 2) := by decide +kernel
theorem d12_16 : decode method_7_code 16 = .ok (.castore, 1) := by decide +kernel
theorem d12_17 : decode method_7_code 17 = .ok (.dup, 1) := by decide +kernel
theorem d12_18 : decode method_7_code 18 = .ok (.iconst 1, 1) := by decide +kernel
theorem d12_19 : decode method_7_code 19 = .ok (.bipush 112, 2) := by decide +kernel
theorem d12_21 : decode method_7_code 21 = .ok (.castore, 1) := by decide +kernel
theorem d12_22 : decode method_7_code 22 = .ok (.dup, 1) := by decide +kernel
theorem d12_23 : decode method_7_code 23 = .ok (.iconst 2, 1) := by decide +kernel
theorem d12_24 : decode method_7_code 24 = .ok (.bipush 58, 2) := by decide +kernel
theorem d12_26 : decode method_7_code 26 = .ok (.castore, 1) := by decide +kernel
theorem d12_27 : decode method_7_code 27 = .ok (.dup, 1) := by decide +kernel
theorem d12_28 : decode method_7_code 28 = .ok (.iconst 3, 1) := by decide +kernel
theorem d12_29 : decode method_7_code 29 = .ok (.bipush 83, 2) := by decide +kernel
theorem d12_31 : decode method_7_code 31 = .ok (.castore, 1) := by decide +kernel
theorem d12_32 : decode method_7_code 32 = .ok (.dup, 1) := by decide +kernel
theorem d12_33 : decode method_7_code 33 = .ok (.iconst 4, 1) := by decide +kernel
theorem d12_34 : decode method_7_code 34 = .ok (.bipush 121, 2) := by decide +kernel
theorem d12_36 : decode method_7_code 36 = .ok (.castore, 1) := by decide +kernel
theorem d12_37 : decode method_7_code 37 = .ok (.dup, 1) := by decide +kernel
theorem d12_38 : decode method_7_code 38 = .ok (.iconst 5, 1) := by decide +kernel
theorem d12_39 : decode method_7_code 39 = .ok (.bipush 115, 2) := by decide +kernel
theorem d12_41 : decode method_7_code 41 = .ok (.castore, 1) := by decide +kernel
theorem d12_42 : decode method_7_code 42 = .ok (.dup, 1) := by decide +kernel
theorem d12_43 : decode method_7_code 43 = .ok (.bipush 6, 2) := by decide +kernel
theorem d12_45 : decode method_7_code 45 = .ok (.bipush 116, 2) := by decide +kernel
theorem d12_47 : decode method_7_code 47 = .ok (.castore, 1) := by decide +kernel
theorem d12_48 : decode method_7_code 48 = .ok (.dup, 1) := by decide +kernel
theorem d12_49 : decode method_7_code 49 = .ok (.bipush 7, 2) := by decide +kernel
theorem d12_51 : decode method_7_code 51 = .ok (.bipush 101, 2) := by decide +kernel
theorem d12_53 : decode method_7_code 53 = .ok (.castore, 1) := by decide +kernel
theorem d12_54 : decode method_7_code 54 = .ok (.dup, 1) := by decide +kernel
theorem d12_55 : decode method_7_code 55 = .ok (.bipush 8, 2) := by decide +kernel
theorem d12_57 : decode method_7_code 57 = .ok (.bipush 109, 2) := by decide +kernel
theorem d12_59 : decode method_7_code 59 = .ok (.castore, 1) := by decide +kernel
theorem d12_60 : decode method_7_code 60 = .ok (.dup, 1) := by decide +kernel
theorem d12_61 : decode method_7_code 61 = .ok (.bipush 9, 2) := by decide +kernel
theorem d12_63 : decode method_7_code 63 = .ok (.bipush 85, 2) := by decide +kernel
theorem d12_65 : decode method_7_code 65 = .ok (.castore, 1) := by decide +kernel
theorem d12_66 : decode method_7_code 66 = .ok (.dup, 1) := by decide +kernel
theorem d12_67 : decode method_7_code 67 = .ok (.bipush 10, 2) := by decide +kernel
theorem d12_69 : decode method_7_code 69 = .ok (.bipush 115, 2) := by decide +kernel
theorem d12_71 : decode method_7_code 71 = .ok (.castore, 1) := by decide +kernel
theorem d12_72 : decode method_7_code 72 = .ok (.dup, 1) := by decide +kernel
theorem d12_73 : decode method_7_code 73 = .ok (.bipush 11, 2) := by decide +kernel
theorem d12_75 : decode method_7_code 75 = .ok (.bipush 101, 2) := by decide +kernel
theorem d12_77 : decode method_7_code 77 = .ok (.castore, 1) := by decide +kernel
theorem d12_78 : decode method_7_code 78 = .ok (.dup, 1) := by decide +kernel
theorem d12_79 : decode method_7_code 79 = .ok (.bipush 12, 2) := by decide +kernel
theorem d12_81 : decode method_7_code 81 = .ok (.bipush 114, 2) := by decide +kernel
theorem d12_83 : decode method_7_code 83 = .ok (.castore, 1) := by decide +kernel
theorem d12_84 : decode method_7_code 84 = .ok (.areturn, 1) := by decide +kernel
theorem pn12 : plainName "com/example/leastwise/leastwise/core/AuthorizableTypeOfPinLaw" = true := by first | (simp [plainName, overriddenIn]; done) | decide +kernel
theorem ef12 (m : MethodId) (x0 : Int32) (x1 : Int32) : entryFrame m #[(.int x0), (.int x1)] 2 = mkF m 0 #[.val (.int x0), .val (.int x1)] [] := by first | (simp [entryFrame, mkF, argsToLocals, Value.category]; done) | rfl
set_option maxRecDepth 65536 in
set_option maxHeartbeats 40000000 in
theorem rm12 (l : Launch) (Z : State) (a0 : Array Value) (hw : ∀ d ∈ tables_1, d.before a0 Z = true) (ws : List Jvm.Cond)  (h0 : Heap) (n0 : Nat) (Z0 : n0 ≤ h0.size) :
    own_Met l (⟨"com/example/leastwise/leastwise/core/AuthorizableTypeOfPinLaw", "truncated", "(IZ)[C"⟩ : MethodName) method_7_code 2 (some (.array .char)) ws ({ frames := 0, cells := 1, slots := 13, locals := 0 } : Room) Z #[(.int (0 : Int32)), (.int (1 : Int32))] h0 (Q12 Z h0 n0) := by
  refine own_enter #[.val (.int (0 : Int32)), .val (.int (1 : Int32))] (plainFor_of_name pn12) (fun m => ef12 m (0 : Int32) (1 : Int32)) ?_
  intro p e s m below meth c s₁ hx hby hml hown hnm hZ hrt hlk X0 e0
  have N0 := Fr.nil n0
  refine own_tp (.int (1 : Int32)) 1 (fun _ q => XS.iloadN X0.here hx rfl (hb hby d12_0) rfl q) ?_
  refine own_d1 4 (fun _ q => XS.ifNo X0.here hx rfl (hb hby d12_1) rfl ((if0 _ _).trans (feq (by decide : ¬ ((1 : Int32) = (0 : Int32)))).1) q) ?_
  refine own_tp (.int (0 : Int32)) 5 (fun _ q => XS.iloadN X0.here hx rfl (hb hby d12_4) rfl q) ?_
  refine own_d1 8 (fun _ q => XS.ifNo X0.here hx rfl (hb hby d12_5) rfl ((if0 _ _).trans (teq (by decide : (0 : Int32) = (0 : Int32))).2) q) ?_
  refine own_tp (.int (13 : Int32)) 10 (fun _ q => XS.bipush X0.here hx rfl (hb hby d12_8) q) ?_
  obtain ⟨T51, h51, k51, X51, e51, E51, A51, st51⟩ := newP X0 hx hZ (hw _ (List.mem_of_getElem? (i := 8) rfl)) e0 (g := (mkF m 10 #[.val (.int (0 : Int32)), .val (.int (1 : Int32))] [(.int (13 : Int32))])) rfl (hb hby d12_10) rfl (by decide) (cap := 13) (by decide) (by decide) (by decide) (by decide)
  obtain ⟨b51, g51⟩ : ∃ z, z = h0.size := ⟨_, rfl⟩
  rw [← g51] at A51 st51
  have V51 : Arv Z h51 b51 k51 .char (13 : Int32) [(.int (0 : Int32)), (.int (0 : Int32)), (.int (0 : Int32)), (.int (0 : Int32)), (.int (0 : Int32)), (.int (0 : Int32)), (.int (0 : Int32)), (.int (0 : Int32)), (.int (0 : Int32)), (.int (0 : Int32)), (.int (0 : Int32)), (.int (0 : Int32)), (.int (0 : Int32))] (.int (0 : Int32)) := (Arv.new A51 (by decide)).pad (pad_rep [] (.int (0 : Int32)) 13)
  have ge51 : n0 ≤ b51 := Nat.le_trans Z0 (Nat.le_of_eq g51.symm)
  have sz51 : h0.size ≤ b51 := Nat.le_trans (Keep.refl h0 []).1 (Nat.le_of_eq g51.symm)
  have K51 : Keep h0 h51 [] := (Keep.refl h0 []).ext E51
  have Z51 : n0 ≤ h51.size := Nat.le_trans Z0 E51.1
  refine own_t1 (.ref b51) 12 st51 ?_
  refine own_tp (.ref b51) 13 (fun _ q => XS.dup X51.here hx rfl (hb hby d12_12) rfl rfl q) ?_
  refine own_tp (.int (0 : Int32)) 14 (fun _ q => XS.iconst X51.here hx rfl (hb hby d12_13) q) ?_
  refine own_tp (.int (101 : Int32)) 16 (fun _ q => XS.bipush X51.here hx rfl (hb hby d12_14) q) ?_
  obtain ⟨cl52, Ar52, q52, S52, Nn52, H52, G52⟩ := (id V51)
  have hin52 : ¬ ((0 : Int32) < 0 ∨ cl52.slots.size ≤ ((0 : Int32)).toNatClampNeg) := inb_of S52 ⟨by decide, by decide⟩
  obtain ⟨T53, h53, X53, e53, W53, st53⟩ := stC X51 hx hZ e51 Ar52 (j := (0 : Int32)) hin52 (g := (mkF m 16 #[.val (.int (0 : Int32)), .val (.int (1 : Int32))] [(.int (101 : Int32)), (.int (0 : Int32)), (.ref b51), (.ref b51)])) rfl rfl (hb hby d12_16)
  have V53 := Arv.set Ar52 q52 S52 Nn52 H52 G52 (fits_nar_char _) W53 0 rfl (Nat.le_of_ble_eq_true rfl)
  have N53 := Fr.snoc X53 N0 ge51
  have K53 : Keep h0 h53 [] := K51.wr W53 (Or.inr sz51)
  have Z53 : n0 ≤ h53.size := Nat.le_trans Z51 (Nat.le_of_eq W53.size.symm)
  have V53' : Arv Z h53 b51 k51 .char (13 : Int32) [(.int (101 : Int32)), (.int (0 : Int32)), (.int (0 : Int32)), (.int (0 : Int32)), (.int (0 : Int32)), (.int (0 : Int32)), (.int (0 : Int32)), (.int (0 : Int32)), (.int (0 : Int32)), (.int (0 : Int32)), (.int (0 : Int32)), (.int (0 : Int32)), (.int (0 : Int32))] (.int (0 : Int32)) := V53
  refine own_cs [(.ref b51)] 17 st53 ?_
  refine own_tp (.ref b51) 18 (fun _ q => XS.dup X53.here hx rfl (hb hby d12_17) rfl rfl q) ?_
  refine own_tp (.int (1 : Int32)) 19 (fun _ q => XS.iconst X53.here hx rfl (hb hby d12_18) q) ?_
  refine own_tp (.int (112 : Int32)) 21 (fun _ q => XS.bipush X53.here hx rfl (hb hby d12_19) q) ?_
  obtain ⟨cl54, Ar54, q54, S54, Nn54, H54, G54⟩ := (id V53')
  have hin54 : ¬ ((1 : Int32) < 0 ∨ cl54.slots.size ≤ ((1 : Int32)).toNatClampNeg) := inb_of S54 ⟨by decide, by decide⟩
  obtain ⟨T55, h55, X55, e55, W55, st55⟩ := stC X53 hx hZ e53 Ar54 (j := (1 : Int32)) hin54 (g := (mkF m 21 #[.val (.int (0 : Int32)), .val (.int (1 : Int32))] [(.int (112 : Int32)), (.int (1 : Int32)), (.ref b51), (.ref b51)])) rfl rfl (hb hby d12_21)
  have V55 := Arv.set Ar54 q54 S54 Nn54 H54 G54 (fits_nar_char _) W55 1 rfl (Nat.le_of_ble_eq_true rfl)
  have N55 := Fr.snoc X55 N53 ge51
  have K55 : Keep h0 h55 [] := K53.wr W55 (Or.inr sz51)
  have Z55 : n0 ≤ h55.size := Nat.le_trans Z53 (Nat.le_of_eq W55.size.symm)
  have V55' : Arv Z h55 b51 k51 .char (13 : Int32) [(.int (101 : Int32)), (.int (112 : Int32)), (.int (0 : Int32)), (.int (0 : Int32)), (.int (0 : Int32)), (.int (0 : Int32)), (.int (0 : Int32)), (.int (0 : Int32)), (.int (0 : Int32)), (.int (0 : Int32)), (.int (0 : Int32)), (.int (0 : Int32)), (.int (0 : Int32))] (.int (0 : Int32)) := V55
  refine own_cs [(.ref b51)] 22 st55 ?_
  refine own_tp (.ref b51) 23 (fun _ q => XS.dup X55.here hx rfl (hb hby d12_22) rfl rfl q) ?_
  refine own_tp (.int (2 : Int32)) 24 (fun _ q => XS.iconst X55.here hx rfl (hb hby d12_23) q) ?_
  refine own_tp (.int (58 : Int32)) 26 (fun _ q => XS.bipush X55.here hx rfl (hb hby d12_24) q) ?_
  obtain ⟨cl56, Ar56, q56, S56, Nn56, H56, G56⟩ := (id V55')
  have hin56 : ¬ ((2 : Int32) < 0 ∨ cl56.slots.size ≤ ((2 : Int32)).toNatClampNeg) := inb_of S56 ⟨by decide, by decide⟩
  obtain ⟨T57, h57, X57, e57, W57, st57⟩ := stC X55 hx hZ e55 Ar56 (j := (2 : Int32)) hin56 (g := (mkF m 26 #[.val (.int (0 : Int32)), .val (.int (1 : Int32))] [(.int (58 : Int32)), (.int (2 : Int32)), (.ref b51), (.ref b51)])) rfl rfl (hb hby d12_26)
  have V57 := Arv.set Ar56 q56 S56 Nn56 H56 G56 (fits_nar_char _) W57 2 rfl (Nat.le_of_ble_eq_true rfl)
  have N57 := Fr.snoc X57 N55 ge51
  have K57 : Keep h0 h57 [] := K55.wr W57 (Or.inr sz51)
  have Z57 : n0 ≤ h57.size := Nat.le_trans Z55 (Nat.le_of_eq W57.size.symm)
  have V57' : Arv Z h57 b51 k51 .char (13 : Int32) [(.int (101 : Int32)), (.int (112 : Int32)), (.int (58 : Int32)), (.int (0 : Int32)), (.int (0 : Int32)), (.int (0 : Int32)), (.int (0 : Int32)), (.int (0 : Int32)), (.int (0 : Int32)), (.int (0 : Int32)), (.int (0 : Int32)), (.int (0 : Int32)), (.int (0 : Int32))] (.int (0 : Int32)) := V57
  refine own_cs [(.ref b51)] 27 st57 ?_
  refine own_tp (.ref b51) 28 (fun _ q => XS.dup X57.here hx rfl (hb hby d12_27) rfl rfl q) ?_
  refine own_tp (.int (3 : Int32)) 29 (fun _ q => XS.iconst X57.here hx rfl (hb hby d12_28) q) ?_
  refine own_tp (.int (83 : Int32)) 31 (fun _ q => XS.bipush X57.here hx rfl (hb hby d12_29) q) ?_
  obtain ⟨cl58, Ar58, q58, S58, Nn58, H58, G58⟩ := (id V57')
  have hin58 : ¬ ((3 : Int32) < 0 ∨ cl58.slots.size ≤ ((3 : Int32)).toNatClampNeg) := inb_of S58 ⟨by decide, by decide⟩
  obtain ⟨T59, h59, X59, e59, W59, st59⟩ := stC X57 hx hZ e57 Ar58 (j := (3 : Int32)) hin58 (g := (mkF m 31 #[.val (.int (0 : Int32)), .val (.int (1 : Int32))] [(.int (83 : Int32)), (.int (3 : Int32)), (.ref b51), (.ref b51)])) rfl rfl (hb hby d12_31)
  have V59 := Arv.set Ar58 q58 S58 Nn58 H58 G58 (fits_nar_char _) W59 3 rfl (Nat.le_of_ble_eq_true rfl)
  have N59 := Fr.snoc X59 N57 ge51
  have K59 : Keep h0 h59 [] := K57.wr W59 (Or.inr sz51)
  have Z59 : n0 ≤ h59.size := Nat.le_trans Z57 (Nat.le_of_eq W59.size.symm)
  have V59' : Arv Z h59 b51 k51 .char (13 : Int32) [(.int (101 : Int32)), (.int (112 : Int32)), (.int (58 : Int32)), (.int (83 : Int32)), (.int (0 : Int32)), (.int (0 : Int32)), (.int (0 : Int32)), (.int (0 : Int32)), (.int (0 : Int32)), (.int (0 : Int32)), (.int (0 : Int32)), (.int (0 : Int32)), (.int (0 : Int32))] (.int (0 : Int32)) := V59
  refine own_cs [(.ref b51)] 32 st59 ?_
  refine own_tp (.ref b51) 33 (fun _ q => XS.dup X59.here hx rfl (hb hby d12_32) rfl rfl q) ?_
  refine own_tp (.int (4 : Int32)) 34 (fun _ q => XS.iconst X59.here hx rfl (hb hby d12_33) q) ?_
  refine own_tp (.int (121 : Int32)) 36 (fun _ q => XS.bipush X59.here hx rfl (hb hby d12_34) q) ?_
  obtain ⟨cl60, Ar60, q60, S60, Nn60, H60, G60⟩ := (id V59')
  have hin60 : ¬ ((4 : Int32) < 0 ∨ cl60.slots.size ≤ ((4 : Int32)).toNatClampNeg) := inb_of S60 ⟨by decide, by decide⟩
  obtain ⟨T61, h61, X61, e61, W61, st61⟩ := stC X59 hx hZ e59 Ar60 (j := (4 : Int32)) hin60 (g := (mkF m 36 #[.val (.int (0 : Int32)), .val (.int (1 : Int32))] [(.int (121 : Int32)), (.int (4 : Int32)), (.ref b51), (.ref b51)])) rfl rfl (hb hby d12_36)
  have V61 := Arv.set Ar60 q60 S60 Nn60 H60 G60 (fits_nar_char _) W61 4 rfl (Nat.le_of_ble_eq_true rfl)
  have N61 := Fr.snoc X61 N59 ge51
  have K61 : Keep h0 h61 [] := K59.wr W61 (Or.inr sz51)
  have Z61 : n0 ≤ h61.size := Nat.le_trans Z59 (Nat.le_of_eq W61.size.symm)
  have V61' : Arv Z h61 b51 k51 .char (13 : Int32) [(.int (101 : Int32)), (.int (112 : Int32)), (.int (58 : Int32)), (.int (83 : Int32)), (.int (121 : Int32)), (.int (0 : Int32)), (.int (0 : Int32)), (.int (0 : Int32)), (.int (0 : Int32)), (.int (0 : Int32)), (.int (0 : Int32)), (.int (0 : Int32)), (.int (0 : Int32))] (.int (0 : Int32)) := V61
  refine own_cs [(.ref b51)] 37 st61 ?_
  refine own_tp (.ref b51) 38 (fun _ q => XS.dup X61.here hx rfl (hb hby d12_37) rfl rfl q) ?_
  refine own_tp (.int (5 : Int32)) 39 (fun _ q => XS.iconst X61.here hx rfl (hb hby d12_38) q) ?_
  refine own_tp (.int (115 : Int32)) 41 (fun _ q => XS.bipush X61.here hx rfl (hb hby d12_39) q) ?_
  obtain ⟨cl62, Ar62, q62, S62, Nn62, H62, G62⟩ := (id V61')
  have hin62 : ¬ ((5 : Int32) < 0 ∨ cl62.slots.size ≤ ((5 : Int32)).toNatClampNeg) := inb_of S62 ⟨by decide, by decide⟩
  obtain ⟨T63, h63, X63, e63, W63, st63⟩ := stC X61 hx hZ e61 Ar62 (j := (5 : Int32)) hin62 (g := (mkF m 41 #[.val (.int (0 : Int32)), .val (.int (1 : Int32))] [(.int (115 : Int32)), (.int (5 : Int32)), (.ref b51), (.ref b51)])) rfl rfl (hb hby d12_41)
  have V63 := Arv.set Ar62 q62 S62 Nn62 H62 G62 (fits_nar_char _) W63 5 rfl (Nat.le_of_ble_eq_true rfl)
  have N63 := Fr.snoc X63 N61 ge51
  have K63 : Keep h0 h63 [] := K61.wr W63 (Or.inr sz51)
  have Z63 : n0 ≤ h63.size := Nat.le_trans Z61 (Nat.le_of_eq W63.size.symm)
  have V63' : Arv Z h63 b51 k51 .char (13 : Int32) [(.int (101 : Int32)), (.int (112 : Int32)), (.int (58 : Int32)), (.int (83 : Int32)), (.int (121 : Int32)), (.int (115 : Int32)), (.int (0 : Int32)), (.int (0 : Int32)), (.int (0 : Int32)), (.int (0 : Int32)), (.int (0 : Int32)), (.int (0 : Int32)), (.int (0 : Int32))] (.int (0 : Int32)) := V63
  refine own_cs [(.ref b51)] 42 st63 ?_
  refine own_tp (.ref b51) 43 (fun _ q => XS.dup X63.here hx rfl (hb hby d12_42) rfl rfl q) ?_
  refine own_tp (.int (6 : Int32)) 45 (fun _ q => XS.bipush X63.here hx rfl (hb hby d12_43) q) ?_
  refine own_tp (.int (116 : Int32)) 47 (fun _ q => XS.bipush X63.here hx rfl (hb hby d12_45) q) ?_
  obtain ⟨cl64, Ar64, q64, S64, Nn64, H64, G64⟩ := (id V63')
  have hin64 : ¬ ((6 : Int32) < 0 ∨ cl64.slots.size ≤ ((6 : Int32)).toNatClampNeg) := inb_of S64 ⟨by decide, by decide⟩
  obtain ⟨T65, h65, X65, e65, W65, st65⟩ := stC X63 hx hZ e63 Ar64 (j := (6 : Int32)) hin64 (g := (mkF m 47 #[.val (.int (0 : Int32)), .val (.int (1 : Int32))] [(.int (116 : Int32)), (.int (6 : Int32)), (.ref b51), (.ref b51)])) rfl rfl (hb hby d12_47)
  have V65 := Arv.set Ar64 q64 S64 Nn64 H64 G64 (fits_nar_char _) W65 6 rfl (Nat.le_of_ble_eq_true rfl)
  have N65 := Fr.snoc X65 N63 ge51
  have K65 : Keep h0 h65 [] := K63.wr W65 (Or.inr sz51)
  have Z65 : n0 ≤ h65.size := Nat.le_trans Z63 (Nat.le_of_eq W65.size.symm)
  have V65' : Arv Z h65 b51 k51 .char (13 : Int32) [(.int (101 : Int32)), (.int (112 : Int32)), (.int (58 : Int32)), (.int (83 : Int32)), (.int (121 : Int32)), (.int (115 : Int32)), (.int (116 : Int32)), (.int (0 : Int32)), (.int (0 : Int32)), (.int (0 : Int32)), (.int (0 : Int32)), (.int (0 : Int32)), (.int (0 : Int32))] (.int (0 : Int32)) := V65
  refine own_cs [(.ref b51)] 48 st65 ?_
  refine own_tp (.ref b51) 49 (fun _ q => XS.dup X65.here hx rfl (hb hby d12_48) rfl rfl q) ?_
  refine own_tp (.int (7 : Int32)) 51 (fun _ q => XS.bipush X65.here hx rfl (hb hby d12_49) q) ?_
  refine own_tp (.int (101 : Int32)) 53 (fun _ q => XS.bipush X65.here hx rfl (hb hby d12_51) q) ?_
  obtain ⟨cl66, Ar66, q66, S66, Nn66, H66, G66⟩ := (id V65')
  have hin66 : ¬ ((7 : Int32) < 0 ∨ cl66.slots.size ≤ ((7 : Int32)).toNatClampNeg) := inb_of S66 ⟨by decide, by decide⟩
  obtain ⟨T67, h67, X67, e67, W67, st67⟩ := stC X65 hx hZ e65 Ar66 (j := (7 : Int32)) hin66 (g := (mkF m 53 #[.val (.int (0 : Int32)), .val (.int (1 : Int32))] [(.int (101 : Int32)), (.int (7 : Int32)), (.ref b51), (.ref b51)])) rfl rfl (hb hby d12_53)
  have V67 := Arv.set Ar66 q66 S66 Nn66 H66 G66 (fits_nar_char _) W67 7 rfl (Nat.le_of_ble_eq_true rfl)
  have N67 := Fr.snoc X67 N65 ge51
  have K67 : Keep h0 h67 [] := K65.wr W67 (Or.inr sz51)
  have Z67 : n0 ≤ h67.size := Nat.le_trans Z65 (Nat.le_of_eq W67.size.symm)
  have V67' : Arv Z h67 b51 k51 .char (13 : Int32) [(.int (101 : Int32)), (.int (112 : Int32)), (.int (58 : Int32)), (.int (83 : Int32)), (.int (121 : Int32)), (.int (115 : Int32)), (.int (116 : Int32)), (.int (101 : Int32)), (.int (0 : Int32)), (.int (0 : Int32)), (.int (0 : Int32)), (.int (0 : Int32)), (.int (0 : Int32))] (.int (0 : Int32)) := V67
  refine own_cs [(.ref b51)] 54 st67 ?_
  refine own_tp (.ref b51) 55 (fun _ q => XS.dup X67.here hx rfl (hb hby d12_54) rfl rfl q) ?_
  refine own_tp (.int (8 : Int32)) 57 (fun _ q => XS.bipush X67.here hx rfl (hb hby d12_55) q) ?_
  refine own_tp (.int (109 : Int32)) 59 (fun _ q => XS.bipush X67.here hx rfl (hb hby d12_57) q) ?_
  obtain ⟨cl68, Ar68, q68, S68, Nn68, H68, G68⟩ := (id V67')
  have hin68 : ¬ ((8 : Int32) < 0 ∨ cl68.slots.size ≤ ((8 : Int32)).toNatClampNeg) := inb_of S68 ⟨by decide, by decide⟩
  obtain ⟨T69, h69, X69, e69, W69, st69⟩ := stC X67 hx hZ e67 Ar68 (j := (8 : Int32)) hin68 (g := (mkF m 59 #[.val (.int (0 : Int32)), .val (.int (1 : Int32))] [(.int (109 : Int32)), (.int (8 : Int32)), (.ref b51), (.ref b51)])) rfl rfl (hb hby d12_59)
  have V69 := Arv.set Ar68 q68 S68 Nn68 H68 G68 (fits_nar_char _) W69 8 rfl (Nat.le_of_ble_eq_true rfl)
  have N69 := Fr.snoc X69 N67 ge51
  have K69 : Keep h0 h69 [] := K67.wr W69 (Or.inr sz51)
  have Z69 : n0 ≤ h69.size := Nat.le_trans Z67 (Nat.le_of_eq W69.size.symm)
  have V69' : Arv Z h69 b51 k51 .char (13 : Int32) [(.int (101 : Int32)), (.int (112 : Int32)), (.int (58 : Int32)), (.int (83 : Int32)), (.int (121 : Int32)), (.int (115 : Int32)), (.int (116 : Int32)), (.int (101 : Int32)), (.int (109 : Int32)), (.int (0 : Int32)), (.int (0 : Int32)), (.int (0 : Int32)), (.int (0 : Int32))] (.int (0 : Int32)) := V69
  refine own_cs [(.ref b51)] 60 st69 ?_
  refine own_tp (.ref b51) 61 (fun _ q => XS.dup X69.here hx rfl (hb hby d12_60) rfl rfl q) ?_
  refine own_tp (.int (9 : Int32)) 63 (fun _ q => XS.bipush X69.here hx rfl (hb hby d12_61) q) ?_
  refine own_tp (.int (85 : Int32)) 65 (fun _ q => XS.bipush X69.here hx rfl (hb hby d12_63) q) ?_
  obtain ⟨cl70, Ar70, q70, S70, Nn70, H70, G70⟩ := (id V69')
  have hin70 : ¬ ((9 : Int32) < 0 ∨ cl70.slots.size ≤ ((9 : Int32)).toNatClampNeg) := inb_of S70 ⟨by decide, by decide⟩
  obtain ⟨T71, h71, X71, e71, W71, st71⟩ := stC X69 hx hZ e69 Ar70 (j := (9 : Int32)) hin70 (g := (mkF m 65 #[.val (.int (0 : Int32)), .val (.int (1 : Int32))] [(.int (85 : Int32)), (.int (9 : Int32)), (.ref b51), (.ref b51)])) rfl rfl (hb hby d12_65)
  have V71 := Arv.set Ar70 q70 S70 Nn70 H70 G70 (fits_nar_char _) W71 9 rfl (Nat.le_of_ble_eq_true rfl)
  have N71 := Fr.snoc X71 N69 ge51
  have K71 : Keep h0 h71 [] := K69.wr W71 (Or.inr sz51)
  have Z71 : n0 ≤ h71.size := Nat.le_trans Z69 (Nat.le_of_eq W71.size.symm)
  have V71' : Arv Z h71 b51 k51 .char (13 : Int32) [(.int (101 : Int32)), (.int (112 : Int32)), (.int (58 : Int32)), (.int (83 : Int32)), (.int (121 : Int32)), (.int (115 : Int32)), (.int (116 : Int32)), (.int (101 : Int32)), (.int (109 : Int32)), (.int (85 : Int32)), (.int (0 : Int32)), (.int (0 : Int32)), (.int (0 : Int32))] (.int (0 : Int32)) := V71
  refine own_cs [(.ref b51)] 66 st71 ?_
  refine own_tp (.ref b51) 67 (fun _ q => XS.dup X71.here hx rfl (hb hby d12_66) rfl rfl q) ?_
  refine own_tp (.int (10 : Int32)) 69 (fun _ q => XS.bipush X71.here hx rfl (hb hby d12_67) q) ?_
  refine own_tp (.int (115 : Int32)) 71 (fun _ q => XS.bipush X71.here hx rfl (hb hby d12_69) q) ?_
  obtain ⟨cl72, Ar72, q72, S72, Nn72, H72, G72⟩ := (id V71')
  have hin72 : ¬ ((10 : Int32) < 0 ∨ cl72.slots.size ≤ ((10 : Int32)).toNatClampNeg) := inb_of S72 ⟨by decide, by decide⟩
  obtain ⟨T73, h73, X73, e73, W73, st73⟩ := stC X71 hx hZ e71 Ar72 (j := (10 : Int32)) hin72 (g := (mkF m 71 #[.val (.int (0 : Int32)), .val (.int (1 : Int32))] [(.int (115 : Int32)), (.int (10 : Int32)), (.ref b51), (.ref b51)])) rfl rfl (hb hby d12_71)
  have V73 := Arv.set Ar72 q72 S72 Nn72 H72 G72 (fits_nar_char _) W73 10 rfl (Nat.le_of_ble_eq_true rfl)
  have N73 := Fr.snoc X73 N71 ge51
  have K73 : Keep h0 h73 [] := K71.wr W73 (Or.inr sz51)
  have Z73 : n0 ≤ h73.size := Nat.le_trans Z71 (Nat.le_of_eq W73.size.symm)
  have V73' : Arv Z h73 b51 k51 .char (13 : Int32) [(.int (101 : Int32)), (.int (112 : Int32)), (.int (58 : Int32)), (.int (83 : Int32)), (.int (121 : Int32)), (.int (115 : Int32)), (.int (116 : Int32)), (.int (101 : Int32)), (.int (109 : Int32)), (.int (85 : Int32)), (.int (115 : Int32)), (.int (0 : Int32)), (.int (0 : Int32))] (.int (0 : Int32)) := V73
  refine own_cs [(.ref b51)] 72 st73 ?_
  refine own_tp (.ref b51) 73 (fun _ q => XS.dup X73.here hx rfl (hb hby d12_72) rfl rfl q) ?_
  refine own_tp (.int (11 : Int32)) 75 (fun _ q => XS.bipush X73.here hx rfl (hb hby d12_73) q) ?_
  refine own_tp (.int (101 : Int32)) 77 (fun _ q => XS.bipush X73.here hx rfl (hb hby d12_75) q) ?_
  obtain ⟨cl74, Ar74, q74, S74, Nn74, H74, G74⟩ := (id V73')
  have hin74 : ¬ ((11 : Int32) < 0 ∨ cl74.slots.size ≤ ((11 : Int32)).toNatClampNeg) := inb_of S74 ⟨by decide, by decide⟩
  obtain ⟨T75, h75, X75, e75, W75, st75⟩ := stC X73 hx hZ e73 Ar74 (j := (11 : Int32)) hin74 (g := (mkF m 77 #[.val (.int (0 : Int32)), .val (.int (1 : Int32))] [(.int (101 : Int32)), (.int (11 : Int32)), (.ref b51), (.ref b51)])) rfl rfl (hb hby d12_77)
  have V75 := Arv.set Ar74 q74 S74 Nn74 H74 G74 (fits_nar_char _) W75 11 rfl (Nat.le_of_ble_eq_true rfl)
  have N75 := Fr.snoc X75 N73 ge51
  have K75 : Keep h0 h75 [] := K73.wr W75 (Or.inr sz51)
  have Z75 : n0 ≤ h75.size := Nat.le_trans Z73 (Nat.le_of_eq W75.size.symm)
  have V75' : Arv Z h75 b51 k51 .char (13 : Int32) [(.int (101 : Int32)), (.int (112 : Int32)), (.int (58 : Int32)), (.int (83 : Int32)), (.int (121 : Int32)), (.int (115 : Int32)), (.int (116 : Int32)), (.int (101 : Int32)), (.int (109 : Int32)), (.int (85 : Int32)), (.int (115 : Int32)), (.int (101 : Int32)), (.int (0 : Int32))] (.int (0 : Int32)) := V75
  refine own_cs [(.ref b51)] 78 st75 ?_
  refine own_tp (.ref b51) 79 (fun _ q => XS.dup X75.here hx rfl (hb hby d12_78) rfl rfl q) ?_
  refine own_tp (.int (12 : Int32)) 81 (fun _ q => XS.bipush X75.here hx rfl (hb hby d12_79) q) ?_
  refine own_tp (.int (114 : Int32)) 83 (fun _ q => XS.bipush X75.here hx rfl (hb hby d12_81) q) ?_
  obtain ⟨cl76, Ar76, q76, S76, Nn76, H76, G76⟩ := (id V75')
  have hin76 : ¬ ((12 : Int32) < 0 ∨ cl76.slots.size ≤ ((12 : Int32)).toNatClampNeg) := inb_of S76 ⟨by decide, by decide⟩
  obtain ⟨T77, h77, X77, e77, W77, st77⟩ := stC X75 hx hZ e75 Ar76 (j := (12 : Int32)) hin76 (g := (mkF m 83 #[.val (.int (0 : Int32)), .val (.int (1 : Int32))] [(.int (114 : Int32)), (.int (12 : Int32)), (.ref b51), (.ref b51)])) rfl rfl (hb hby d12_83)
  have V77 := Arv.set Ar76 q76 S76 Nn76 H76 G76 (fits_nar_char _) W77 12 rfl (Nat.le_of_ble_eq_true rfl)
  have N77 := Fr.snoc X77 N75 ge51
  have K77 : Keep h0 h77 [] := K75.wr W77 (Or.inr sz51)
  have Z77 : n0 ≤ h77.size := Nat.le_trans Z75 (Nat.le_of_eq W77.size.symm)
  have V77' : Arv Z h77 b51 k51 .char (13 : Int32) [(.int (101 : Int32)), (.int (112 : Int32)), (.int (58 : Int32)), (.int (83 : Int32)), (.int (121 : Int32)), (.int (115 : Int32)), (.int (116 : Int32)), (.int (101 : Int32)), (.int (109 : Int32)), (.int (85 : Int32)), (.int (115 : Int32)), (.int (101 : Int32)), (.int (114 : Int32))] (.int (0 : Int32)) := V77
  refine own_cs [(.ref b51)] 84 st77 ?_
  exact own_retR X77 hx hrt (hb hby d12_84) rfl rfl hlk (by decide) (by decide) e77 (⟨b51, _, rfl, N77, K77, ge51, sz51, V77'⟩)

def Q13 (Z : State) (h0 : Heap) (n0 : Nat) (v : Option Value) (h : Heap) (L : List Loc) : Prop := ∃ (b : Addr) (k : ClassId), v = some (.ref b) ∧ Fr n0 L ∧ Keep h0 h [] ∧ n0 ≤ b ∧ h0.size ≤ b ∧ Arv Z h b k .char (13 : Int32) [(.int (114 : Int32)), (.int (101 : Int32)), (.int (112 : Int32)), (.int (58 : Int32)), (.int (83 : Int32)), (.int (121 : Int32)), (.int (115 : Int32)), (.int (116 : Int32)), (.int (101 : Int32)), (.int (109 : Int32)), (.int (85 : Int32)), (.int (115 : Int32)), (.int (101 : Int32))] (.int (0 : Int32))

theorem d13_0 : decode method_7_code 0 = .ok (.iload_n 1, 1) := by decide +kernel
theorem d13_1 : decode method_7_code 1 = .ok (.ifCond .eq 177, 3) := by decide +kernel
theorem d13_178 : decode method_7_code 178 = .ok (.iload_n 0, 1) := by decide +kernel
theorem d13_179 : decode method_7_code 179 = .ok (.ifCond .ne 80, 3) := by decide +kernel
theorem d13_182 : decode method_7_code 182 = .ok (.bipush 13, 2) := by decide +kernel
theorem d13_184 : decode method_7_code 184 = .ok (.newarray .char, 2) := by decide +kernel
theorem d13_186 : decode method_7_code 186 = .ok (.dup, 1) := by decide +kernel
theorem d13_187 : decode method_7_code 187 = .ok (.iconst 0, 1) := by decide +kernel
theorem d13_188 : decode method_7_code 188 = .ok (.bipush 114, 2) := by decide +kernel
theorem d13_190 : decode method_7_code 190 = .ok (.castore, 1) := by decide +kernel
theorem d13_191 : decode method_7_code 191 = .ok (.dup, 1) := by decide +kernel
theorem d13_192 : decode method_7_code 192 = .ok (.iconst 1, 1) := by decide +kernel
theorem d13_193 : decode method_7_code 193 = .ok (.bipush 101, 2) := by decide +kernel
theorem d13_195 : decode method_7_code 195 = .ok (.castore, 1) := by decide +kernel
theorem d13_196 : decode method_7_code 196 = .ok (.dup, 1) := by decide +kernel
theorem d13_197 : decode method_7_code 197 = .ok (.iconst 2, 1) := by decide +kernel
theorem d13_198 : decode method_7_code 198 = .ok (.bipush 112, 2) := by decide +kernel
theorem d13_200 : decode method_7_code 200 = .ok (.castore, 1) := by decide +kernel
theorem d13_201 : decode method_7_code 201 = .ok (.dup, 1) := by decide +kernel
theorem d13_202 : decode method_7_code 202 = .ok (.iconst 3, 1) := by decide +kernel
theorem d13_203 : decode method_7_code 203 = .ok (.bipush 58, 2) := by decide +kernel
theorem d13_205 : decode method_7_code 205 = .ok (.castore, 1) := by decide +kernel
theorem d13_206 : decode method_7_code 206 = .ok (.dup, 1) := by decide +kernel
theorem d13_207 : decode method_7_code 207 = .ok (.iconst 4, 1) := by decide +kernel
theorem d13_208 : decode method_7_code 208 = .ok (.bipush 83, 2) := by decide +kernel
theorem d13_210 : decode method_7_code 210 = .ok (.castore, 1) := by decide +kernel
theorem d13_211 : decode method_7_code 211 = .ok (.dup, 1) := by decide +kernel
theorem d13_212 : decode method_7_code 212 = .ok (.iconst 5, 1) := by decide +kernel
theorem d13_213 : decode method_7_code 213 = .ok (.bipush 121, 2) := by decide +kernel
theorem d13_215 : decode method_7_code 215 = .ok (.castore, 1) := by decide +kernel
theorem d13_216 : decode method_7_code 216 = .ok (.dup, 1) := by decide +kernel
theorem d13_217 : decode method_7_code 217 = .ok (.bipush 6, 2) := by decide +kernel
theorem d13_219 : decode method_7_code 219 = .ok (.bipush 115, 2) := by decide +kernel
theorem d13_221 : decode method_7_code 221 = .ok (.castore, 1) := by decide +kernel
theorem d13_222 : decode method_7_code 222 = .ok (.dup, 1) := by decide +kernel
theorem d13_223 : decode method_7_code 223 = .ok (.bipush 7, 2) := by decide +kernel
theorem d13_225 : decode method_7_code 225 = .ok (.bipush 116, 2) := by decide +kernel
theorem d13_227 : decode method_7_code 227 = .ok (.castore, 1) := by decide +kernel
theorem d13_228 : decode method_7_code 228 = .ok (.dup, 1) := by decide +kernel
theorem d13_229 : decode method_7_code 229 = .ok (.bipush 8, 2) := by decide +kernel
theorem d13_231 : decode method_7_code 231 = .ok (.bipush 101, 2) := by decide +kernel
theorem d13_233 : decode method_7_code 233 = .ok (.castore, 1) := by decide +kernel
theorem d13_234 : decode method_7_code 234 = .ok (.dup, 1) := by decide +kernel
theorem d13_235 : decode method_7_code 235 = .ok (.bipush 9, 2) := by decide +kernel
theorem d13_237 : decode method_7_code 237 = .ok (.bipush 109, 2) := by decide +kernel
theorem d13_239 : decode method_7_code 239 = .ok (.castore, 1) := by decide +kernel
theorem d13_240 : decode method_7_code 240 = .ok (.dup, 1) := by decide +kernel
theorem d13_241 : decode method_7_code 241 = .ok (.bipush 10, 2) := by decide +kernel
theorem d13_243 : decode method_7_code 243 = .ok (.bipush 85, 2) := by decide +kernel
theorem d13_245 : decode method_7_code 245 = .ok (.castore, 1) := by decide +kernel
theorem d13_246 : decode method_7_code 246 = .ok (.dup, 1) := by decide +kernel
theorem d13_247 : decode method_7_code 247 = .ok (.bipush 11, 2) := by decide +kernel
theorem d13_249 : decode method_7_code 249 = .ok (.bipush 115, 2) := by decide +kernel
theorem d13_251 : decode method_7_code 251 = .ok (.castore, 1) := by decide +kernel
theorem d13_252 : decode method_7_code 252 = .ok (.dup, 1) := by decide +kernel
theorem d13_253 : decode method_7_code 253 = .ok (.bipush 12, 2) := by decide +kernel
theorem d13_255 : decode method_7_code 255 = .ok (.bipush 101, 2) := by decide +kernel
theorem d13_257 : decode method_7_code 257 = .ok (.castore, 1) := by decide +kernel
theorem d13_258 : decode method_7_code 258 = .ok (.areturn, 1) := by decide +kernel
theorem pn13 : plainName "com/example/leastwise/leastwise/core/AuthorizableTypeOfPinLaw" = true := by first | (simp [plainName, overriddenIn]; done) | decide +kernel
theorem ef13 (m : MethodId) (x0 : Int32) (x1 : Int32) : entryFrame m #[(.int x0), (.int x1)] 2 = mkF m 0 #[.val (.int x0), .val (.int x1)] [] := by first | (simp [entryFrame, mkF, argsToLocals, Value.category]; done) | rfl
set_option maxRecDepth 65536 in
set_option maxHeartbeats 40000000 in
theorem rm13 (l : Launch) (Z : State) (a0 : Array Value) (hw : ∀ d ∈ tables_1, d.before a0 Z = true) (ws : List Jvm.Cond)  (h0 : Heap) (n0 : Nat) (Z0 : n0 ≤ h0.size) :
    own_Met l (⟨"com/example/leastwise/leastwise/core/AuthorizableTypeOfPinLaw", "truncated", "(IZ)[C"⟩ : MethodName) method_7_code 2 (some (.array .char)) ws ({ frames := 0, cells := 1, slots := 13, locals := 0 } : Room) Z #[(.int (0 : Int32)), (.int (0 : Int32))] h0 (Q13 Z h0 n0) := by
  refine own_enter #[.val (.int (0 : Int32)), .val (.int (0 : Int32))] (plainFor_of_name pn13) (fun m => ef13 m (0 : Int32) (0 : Int32)) ?_
  intro p e s m below meth c s₁ hx hby hml hown hnm hZ hrt hlk X0 e0
  have N0 := Fr.nil n0
  refine own_tp (.int (0 : Int32)) 1 (fun _ q => XS.iloadN X0.here hx rfl (hb hby d13_0) rfl q) ?_
  refine own_d1 178 (fun _ q => XS.ifYes X0.here hx rfl (pc0 := 1) (pc' := 178) rfl (hb hby d13_1) rfl ((if0 _ _).trans (teq (by decide : (0 : Int32) = (0 : Int32))).1) (by decide) (by decide) q) ?_
  refine own_tp (.int (0 : Int32)) 179 (fun _ q => XS.iloadN X0.here hx rfl (hb hby d13_178) rfl q) ?_
  refine own_d1 182 (fun _ q => XS.ifNo X0.here hx rfl (hb hby d13_179) rfl ((if0 _ _).trans (teq (by decide : (0 : Int32) = (0 : Int32))).2) q) ?_
  refine own_tp (.int (13 : Int32)) 184 (fun _ q => XS.bipush X0.here hx rfl (hb hby d13_182) q) ?_
  obtain ⟨T51, h51, k51, X51, e51, E51, A51, st51⟩ := newP X0 hx hZ (hw _ (List.mem_of_getElem? (i := 8) rfl)) e0 (g := (mkF m 184 #[.val (.int (0 : Int32)), .val (.int (0 : Int32))] [(.int (13 : Int32))])) rfl (hb hby d13_184) rfl (by decide) (cap := 13) (by decide) (by decide) (by decide) (by decide)
  obtain ⟨b51, g51⟩ : ∃ z, z = h0.size := ⟨_, rfl⟩
  rw [← g51] at A51 st51
  have V51 : Arv Z h51 b51 k51 .char (13 : Int32) [(.int (0 : Int32)), (.int (0 : Int32)), (.int (0 : Int32)), (.int (0 : Int32)), (.int (0 : Int32)), (.int (0 : Int32)), (.int (0 : Int32)), (.int (0 : Int32)), (.int (0 : Int32)), (.int (0 : Int32)), (.int (0 : Int32)), (.int (0 : Int32)), (.int (0 : Int32))] (.int (0 : Int32)) := (Arv.new A51 (by decide)).pad (pad_rep [] (.int (0 : Int32)) 13)
  have ge51 : n0 ≤ b51 := Nat.le_trans Z0 (Nat.le_of_eq g51.symm)
  have sz51 : h0.size ≤ b51 := Nat.le_trans (Keep.refl h0 []).1 (Nat.le_of_eq g51.symm)
  have K51 : Keep h0 h51 [] := (Keep.refl h0 []).ext E51
  have Z51 : n0 ≤ h51.size := Nat.le_trans Z0 E51.1
  refine own_t1 (.ref b51) 186 st51 ?_
  refine own_tp (.ref b51) 187 (fun _ q => XS.dup X51.here hx rfl (hb hby d13_186) rfl rfl q) ?_
  refine own_tp (.int (0 : Int32)) 188 (fun _ q => XS.iconst X51.here hx rfl (hb hby d13_187) q) ?_
  refine own_tp (.int (114 : Int32)) 190 (fun _ q => XS.bipush X51.here hx rfl (hb hby d13_188) q) ?_
  obtain ⟨cl52, Ar52, q52, S52, Nn52, H52, G52⟩ := (id V51)
  have hin52 : ¬ ((0 : Int32) < 0 ∨ cl52.slots.size ≤ ((0 : Int32)).toNatClampNeg) := inb_of S52 ⟨by decide, by decide⟩
  obtain ⟨T53, h53, X53, e53, W53, st53⟩ := stC X51 hx hZ e51 Ar52 (j := (0 : Int32)) hin52 (g := (mkF m 190 #[.val (.int (0 : Int32)), .val (.int (0 : Int32))] [(.int (114 : Int32)), (.int (0 : Int32)), (.ref b51), (.ref b51)])) rfl rfl (hb hby d13_190)
  have V53 := Arv.set Ar52 q52 S52 Nn52 H52 G52 (fits_nar_char _) W53 0 rfl (Nat.le_of_ble_eq_true rfl)
  have N53 := Fr.snoc X53 N0 ge51
  have K53 : Keep h0 h53 [] := K51.wr W53 (Or.inr sz51)
  have Z53 : n0 ≤ h53.size := Nat.le_trans Z51 (Nat.le_of_eq W53.size.symm)
  have V53' : Arv Z h53 b51 k51 .char (13 : Int32) [(.int (114 : Int32)), (.int (0 : Int32)), (.int (0 : Int32)), (.int (0 : Int32)), (.int (0 : Int32)), (.int (0 : Int32)), (.int (0 : Int32)), (.int (0 : Int32)), (.int (0 : Int32)), (.int (0 : Int32)), (.int (0 : Int32)), (.int (0 : Int32)), (.int (0 : Int32))] (.int (0 : Int32)) := V53
  refine own_cs [(.ref b51)] 191 st53 ?_
  refine own_tp (.ref b51) 192 (fun _ q => XS.dup X53.here hx rfl (hb hby d13_191) rfl rfl q) ?_
  refine own_tp (.int (1 : Int32)) 193 (fun _ q => XS.iconst X53.here hx rfl (hb hby d13_192) q) ?_
  refine own_tp (.int (101 : Int32)) 195 (fun _ q => XS.bipush X53.here hx rfl (hb hby d13_193) q) ?_
  obtain ⟨cl54, Ar54, q54, S54, Nn54, H54, G54⟩ := (id V53')
  have hin54 : ¬ ((1 : Int32) < 0 ∨ cl54.slots.size ≤ ((1 : Int32)).toNatClampNeg) := inb_of S54 ⟨by decide, by decide⟩
  obtain ⟨T55, h55, X55, e55, W55, st55⟩ := stC X53 hx hZ e53 Ar54 (j := (1 : Int32)) hin54 (g := (mkF m 195 #[.val (.int (0 : Int32)), .val (.int (0 : Int32))] [(.int (101 : Int32)), (.int (1 : Int32)), (.ref b51), (.ref b51)])) rfl rfl (hb hby d13_195)
  have V55 := Arv.set Ar54 q54 S54 Nn54 H54 G54 (fits_nar_char _) W55 1 rfl (Nat.le_of_ble_eq_true rfl)
  have N55 := Fr.snoc X55 N53 ge51
  have K55 : Keep h0 h55 [] := K53.wr W55 (Or.inr sz51)
  have Z55 : n0 ≤ h55.size := Nat.le_trans Z53 (Nat.le_of_eq W55.size.symm)
  have V55' : Arv Z h55 b51 k51 .char (13 : Int32) [(.int (114 : Int32)), (.int (101 : Int32)), (.int (0 : Int32)), (.int (0 : Int32)), (.int (0 : Int32)), (.int (0 : Int32)), (.int (0 : Int32)), (.int (0 : Int32)), (.int (0 : Int32)), (.int (0 : Int32)), (.int (0 : Int32)), (.int (0 : Int32)), (.int (0 : Int32))] (.int (0 : Int32)) := V55
  refine own_cs [(.ref b51)] 196 st55 ?_
  refine own_tp (.ref b51) 197 (fun _ q => XS.dup X55.here hx rfl (hb hby d13_196) rfl rfl q) ?_
  refine own_tp (.int (2 : Int32)) 198 (fun _ q => XS.iconst X55.here hx rfl (hb hby d13_197) q) ?_
  refine own_tp (.int (112 : Int32)) 200 (fun _ q => XS.bipush X55.here hx rfl (hb hby d13_198) q) ?_
  obtain ⟨cl56, Ar56, q56, S56, Nn56, H56, G56⟩ := (id V55')
  have hin56 : ¬ ((2 : Int32) < 0 ∨ cl56.slots.size ≤ ((2 : Int32)).toNatClampNeg) := inb_of S56 ⟨by decide, by decide⟩
  obtain ⟨T57, h57, X57, e57, W57, st57⟩ := stC X55 hx hZ e55 Ar56 (j := (2 : Int32)) hin56 (g := (mkF m 200 #[.val (.int (0 : Int32)), .val (.int (0 : Int32))] [(.int (112 : Int32)), (.int (2 : Int32)), (.ref b51), (.ref b51)])) rfl rfl (hb hby d13_200)
  have V57 := Arv.set Ar56 q56 S56 Nn56 H56 G56 (fits_nar_char _) W57 2 rfl (Nat.le_of_ble_eq_true rfl)
  have N57 := Fr.snoc X57 N55 ge51
  have K57 : Keep h0 h57 [] := K55.wr W57 (Or.inr sz51)
  have Z57 : n0 ≤ h57.size := Nat.le_trans Z55 (Nat.le_of_eq W57.size.symm)
  have V57' : Arv Z h57 b51 k51 .char (13 : Int32) [(.int (114 : Int32)), (.int (101 : Int32)), (.int (112 : Int32)), (.int (0 : Int32)), (.int (0 : Int32)), (.int (0 : Int32)), (.int (0 : Int32)), (.int (0 : Int32)), (.int (0 : Int32)), (.int (0 : Int32)), (.int (0 : Int32)), (.int (0 : Int32)), (.int (0 : Int32))] (.int (0 : Int32)) := V57
  refine own_cs [(.ref b51)] 201 st57 ?_
  refine own_tp (.ref b51) 202 (fun _ q => XS.dup X57.here hx rfl (hb hby d13_201) rfl rfl q) ?_
  refine own_tp (.int (3 : Int32)) 203 (fun _ q => XS.iconst X57.here hx rfl (hb hby d13_202) q) ?_
  refine own_tp (.int (58 : Int32)) 205 (fun _ q => XS.bipush X57.here hx rfl (hb hby d13_203) q) ?_
  obtain ⟨cl58, Ar58, q58, S58, Nn58, H58, G58⟩ := (id V57')
  have hin58 : ¬ ((3 : Int32) < 0 ∨ cl58.slots.size ≤ ((3 : Int32)).toNatClampNeg) := inb_of S58 ⟨by decide, by decide⟩
  obtain ⟨T59, h59, X59, e59, W59, st59⟩ := stC X57 hx hZ e57 Ar58 (j := (3 : Int32)) hin58 (g := (mkF m 205 #[.val (.int (0 : Int32)), .val (.int (0 : Int32))] [(.int (58 : Int32)), (.int (3 : Int32)), (.ref b51), (.ref b51)])) rfl rfl (hb hby d13_205)
  have V59 := Arv.set Ar58 q58 S58 Nn58 H58 G58 (fits_nar_char _) W59 3 rfl (Nat.le_of_ble_eq_true rfl)
  have N59 := Fr.snoc X59 N57 ge51
  have K59 : Keep h0 h59 [] := K57.wr W59 (Or.inr sz51)
  have Z59 : n0 ≤ h59.size := Nat.le_trans Z57 (Nat.le_of_eq W59.size.symm)
  have V59' : Arv Z h59 b51 k51 .char (13 : Int32) [(.int (114 : Int32)), (.int (101 : Int32)), (.int (112 : Int32)), (.int (58 : Int32)), (.int (0 : Int32)), (.int (0 : Int32)), (.int (0 : Int32)), (.int (0 : Int32)), (.int (0 : Int32)), (.int (0 : Int32)), (.int (0 : Int32)), (.int (0 : Int32)), (.int (0 : Int32))] (.int (0 : Int32)) := V59
  refine own_cs [(.ref b51)] 206 st59 ?_
  refine own_tp (.ref b51) 207 (fun _ q => XS.dup X59.here hx rfl (hb hby d13_206) rfl rfl q) ?_
  refine own_tp (.int (4 : Int32)) 208 (fun _ q => XS.iconst X59.here hx rfl (hb hby d13_207) q) ?_
  refine own_tp (.int (83 : Int32)) 210 (fun _ q => XS.bipush X59.here hx rfl (hb hby d13_208) q) ?_
  obtain ⟨cl60, Ar60, q60, S60, Nn60, H60, G60⟩ := (id V59')
  have hin60 : ¬ ((4 : Int32) < 0 ∨ cl60.slots.size ≤ ((4 : Int32)).toNatClampNeg) := inb_of S60 ⟨by decide, by decide⟩
  obtain ⟨T61, h61, X61, e61, W61, st61⟩ := stC X59 hx hZ e59 Ar60 (j := (4 : Int32)) hin60 (g := (mkF m 210 #[.val (.int (0 : Int32)), .val (.int (0 : Int32))] [(.int (83 : Int32)), (.int (4 : Int32)), (.ref b51), (.ref b51)])) rfl rfl (hb hby d13_210)
  have V61 := Arv.set Ar60 q60 S60 Nn60 H60 G60 (fits_nar_char _) W61 4 rfl (Nat.le_of_ble_eq_true rfl)
  have N61 := Fr.snoc X61 N59 ge51
  have K61 : Keep h0 h61 [] := K59.wr W61 (Or.inr sz51)
  have Z61 : n0 ≤ h61.size := Nat.le_trans Z59 (Nat.le_of_eq W61.size.symm)
  have V61' : Arv Z h61 b51 k51 .char (13 : Int32) [(.int (114 : Int32)), (.int (101 : Int32)), (.int (112 : Int32)), (.int (58 : Int32)), (.int (83 : Int32)), (.int (0 : Int32)), (.int (0 : Int32)), (.int (0 : Int32)), (.int (0 : Int32)), (.int (0 : Int32)), (.int (0 : Int32)), (.int (0 : Int32)), (.int (0 : Int32))] (.int (0 : Int32)) := V61
  refine own_cs [(.ref b51)] 211 st61 ?_
  refine own_tp (.ref b51) 212 (fun _ q => XS.dup X61.here hx rfl (hb hby d13_211) rfl rfl q) ?_
  refine own_tp (.int (5 : Int32)) 213 (fun _ q => XS.iconst X61.here hx rfl (hb hby d13_212) q) ?_
  refine own_tp (.int (121 : Int32)) 215 (fun _ q => XS.bipush X61.here hx rfl (hb hby d13_213) q) ?_
  obtain ⟨cl62, Ar62, q62, S62, Nn62, H62, G62⟩ := (id V61')
  have hin62 : ¬ ((5 : Int32) < 0 ∨ cl62.slots.size ≤ ((5 : Int32)).toNatClampNeg) := inb_of S62 ⟨by decide, by decide⟩
  obtain ⟨T63, h63, X63, e63, W63, st63⟩ := stC X61 hx hZ e61 Ar62 (j := (5 : Int32)) hin62 (g := (mkF m 215 #[.val (.int (0 : Int32)), .val (.int (0 : Int32))] [(.int (121 : Int32)), (.int (5 : Int32)), (.ref b51), (.ref b51)])) rfl rfl (hb hby d13_215)
  have V63 := Arv.set Ar62 q62 S62 Nn62 H62 G62 (fits_nar_char _) W63 5 rfl (Nat.le_of_ble_eq_true rfl)
  have N63 := Fr.snoc X63 N61 ge51
  have K63 : Keep h0 h63 [] := K61.wr W63 (Or.inr sz51)
  have Z63 : n0 ≤ h63.size := Nat.le_trans Z61 (Nat.le_of_eq W63.size.symm)
  have V63' : Arv Z h63 b51 k51 .char (13 : Int32) [(.int (114 : Int32)), (.int (101 : Int32)), (.int (112 : Int32)), (.int (58 : Int32)), (.int (83 : Int32)), (.int (121 : Int32)), (.int (0 : Int32)), (.int (0 : Int32)), (.int (0 : Int32)), (.int (0 : Int32)), (.int (0 : Int32)), (.int (0 : Int32)), (.int (0 : Int32))] (.int (0 : Int32)) := V63
  refine own_cs [(.ref b51)] 216 st63 ?_
  refine own_tp (.ref b51) 217 (fun _ q => XS.dup X63.here hx rfl (hb hby d13_216) rfl rfl q) ?_
  refine own_tp (.int (6 : Int32)) 219 (fun _ q => XS.bipush X63.here hx rfl (hb hby d13_217) q) ?_
  refine own_tp (.int (115 : Int32)) 221 (fun _ q => XS.bipush X63.here hx rfl (hb hby d13_219) q) ?_
  obtain ⟨cl64, Ar64, q64, S64, Nn64, H64, G64⟩ := (id V63')
  have hin64 : ¬ ((6 : Int32) < 0 ∨ cl64.slots.size ≤ ((6 : Int32)).toNatClampNeg) := inb_of S64 ⟨by decide, by decide⟩
  obtain ⟨T65, h65, X65, e65, W65, st65⟩ := stC X63 hx hZ e63 Ar64 (j := (6 : Int32)) hin64 (g := (mkF m 221 #[.val (.int (0 : Int32)), .val (.int (0 : Int32))] [(.int (115 : Int32)), (.int (6 : Int32)), (.ref b51), (.ref b51)])) rfl rfl (hb hby d13_221)
  have V65 := Arv.set Ar64 q64 S64 Nn64 H64 G64 (fits_nar_char _) W65 6 rfl (Nat.le_of_ble_eq_true rfl)
  have N65 := Fr.snoc X65 N63 ge51
  have K65 : Keep h0 h65 [] := K63.wr W65 (Or.inr sz51)
  have Z65 : n0 ≤ h65.size := Nat.le_trans Z63 (Nat.le_of_eq W65.size.symm)
  have V65' : Arv Z h65 b51 k51 .char (13 : Int32) [(.int (114 : Int32)), (.int (101 : Int32)), (.int (112 : Int32)), (.int (58 : Int32)), (.int (83 : Int32)), (.int (121 : Int32)), (.int (115 : Int32)), (.int (0 : Int32)), (.int (0 : Int32)), (.int (0 : Int32)), (.int (0 : Int32)), (.int (0 : Int32)), (.int (0 : Int32))] (.int (0 : Int32)) := V65
  refine own_cs [(.ref b51)] 222 st65 ?_
  refine own_tp (.ref b51) 223 (fun _ q => XS.dup X65.here hx rfl (hb hby d13_222) rfl rfl q) ?_
  refine own_tp (.int (7 : Int32)) 225 (fun _ q => XS.bipush X65.here hx rfl (hb hby d13_223) q) ?_
  refine own_tp (.int (116 : Int32)) 227 (fun _ q => XS.bipush X65.here hx rfl (hb hby d13_225) q) ?_
  obtain ⟨cl66, Ar66, q66, S66, Nn66, H66, G66⟩ := (id V65')
  have hin66 : ¬ ((7 : Int32) < 0 ∨ cl66.slots.size ≤ ((7 : Int32)).toNatClampNeg) := inb_of S66 ⟨by decide, by decide⟩
  obtain ⟨T67, h67, X67, e67, W67, st67⟩ := stC X65 hx hZ e65 Ar66 (j := (7 : Int32)) hin66 (g := (mkF m 227 #[.val (.int (0 : Int32)), .val (.int (0 : Int32))] [(.int (116 : Int32)), (.int (7 : Int32)), (.ref b51), (.ref b51)])) rfl rfl (hb hby d13_227)
  have V67 := Arv.set Ar66 q66 S66 Nn66 H66 G66 (fits_nar_char _) W67 7 rfl (Nat.le_of_ble_eq_true rfl)
  have N67 := Fr.snoc X67 N65 ge51
  have K67 : Keep h0 h67 [] := K65.wr W67 (Or.inr sz51)
  have Z67 : n0 ≤ h67.size := Nat.le_trans Z65 (Nat.le_of_eq W67.size.symm)
  have V67' : Arv Z h67 b51 k51 .char (13 : Int32) [(.int (114 : Int32)), (.int (101 : Int32)), (.int (112 : Int32)), (.int (58 : Int32)), (.int (83 : Int32)), (.int (121 : Int32)), (.int (115 : Int32)), (.int (116 : Int32)), (.int (0 : Int32)), (.int (0 : Int32)), (.int (0 : Int32)), (.int (0 : Int32)), (.int (0 : Int32))] (.int (0 : Int32)) := V67
  refine own_cs [(.ref b51)] 228 st67 ?_
  refine own_tp (.ref b51) 229 (fun _ q => XS.dup X67.here hx rfl (hb hby d13_228) rfl rfl q) ?_
  refine own_tp (.int (8 : Int32)) 231 (fun _ q => XS.bipush X67.here hx rfl (hb hby d13_229) q) ?_
  refine own_tp (.int (101 : Int32)) 233 (fun _ q => XS.bipush X67.here hx rfl (hb hby d13_231) q) ?_
  obtain ⟨cl68, Ar68, q68, S68, Nn68, H68, G68⟩ := (id V67')
  have hin68 : ¬ ((8 : Int32) < 0 ∨ cl68.slots.size ≤ ((8 : Int32)).toNatClampNeg) := inb_of S68 ⟨by decide, by decide⟩
  obtain ⟨T69, h69, X69, e69, W69, st69⟩ := stC X67 hx hZ e67 Ar68 (j := (8 : Int32)) hin68 (g := (mkF m 233 #[.val (.int (0 : Int32)), .val (.int (0 : Int32))] [(.int (101 : Int32)), (.int (8 : Int32)), (.ref b51), (.ref b51)])) rfl rfl (hb hby d13_233)
  have V69 := Arv.set Ar68 q68 S68 Nn68 H68 G68 (fits_nar_char _) W69 8 rfl (Nat.le_of_ble_eq_true rfl)
  have N69 := Fr.snoc X69 N67 ge51
  have K69 : Keep h0 h69 [] := K67.wr W69 (Or.inr sz51)
  have Z69 : n0 ≤ h69.size := Nat.le_trans Z67 (Nat.le_of_eq W69.size.symm)
  have V69' : Arv Z h69 b51 k51 .char (13 : Int32) [(.int (114 : Int32)), (.int (101 : Int32)), (.int (112 : Int32)), (.int (58 : Int32)), (.int (83 : Int32)), (.int (121 : Int32)), (.int (115 : Int32)), (.int (116 : Int32)), (.int (101 : Int32)), (.int (0 : Int32)), (.int (0 : Int32)), (.int (0 : Int32)), (.int (0 : Int32))] (.int (0 : Int32)) := V69
  refine own_cs [(.ref b51)] 234 st69 ?_
  refine own_tp (.ref b51) 235 (fun _ q => XS.dup X69.here hx rfl (hb hby d13_234) rfl rfl q) ?_
  refine own_tp (.int (9 : Int32)) 237 (fun _ q => XS.bipush X69.here hx rfl (hb hby d13_235) q) ?_
  refine own_tp (.int (109 : Int32)) 239 (fun _ q => XS.bipush X69.here hx rfl (hb hby d13_237) q) ?_
  obtain ⟨cl70, Ar70, q70, S70, Nn70, H70, G70⟩ := (id V69')
  have hin70 : ¬ ((9 : Int32) < 0 ∨ cl70.slots.size ≤ ((9 : Int32)).toNatClampNeg) := inb_of S70 ⟨by decide, by decide⟩
  obtain ⟨T71, h71, X71, e71, W71, st71⟩ := stC X69 hx hZ e69 Ar70 (j := (9 : Int32)) hin70 (g := (mkF m 239 #[.val (.int (0 : Int32)), .val (.int (0 : Int32))] [(.int (109 : Int32)), (.int (9 : Int32)), (.ref b51), (.ref b51)])) rfl rfl (hb hby d13_239)
  have V71 := Arv.set Ar70 q70 S70 Nn70 H70 G70 (fits_nar_char _) W71 9 rfl (Nat.le_of_ble_eq_true rfl)
  have N71 := Fr.snoc X71 N69 ge51
  have K71 : Keep h0 h71 [] := K69.wr W71 (Or.inr sz51)
  have Z71 : n0 ≤ h71.size := Nat.le_trans Z69 (Nat.le_of_eq W71.size.symm)
  have V71' : Arv Z h71 b51 k51 .char (13 : Int32) [(.int (114 : Int32)), (.int (101 : Int32)), (.int (112 : Int32)), (.int (58 : Int32)), (.int (83 : Int32)), (.int (121 : Int32)), (.int (115 : Int32)), (.int (116 : Int32)), (.int (101 : Int32)), (.int (109 : Int32)), (.int (0 : Int32)), (.int (0 : Int32)), (.int (0 : Int32))] (.int (0 : Int32)) := V71
  refine own_cs [(.ref b51)] 240 st71 ?_
  refine own_tp (.ref b51) 241 (fun _ q => XS.dup X71.here hx rfl (hb hby d13_240) rfl rfl q) ?_
  refine own_tp (.int (10 : Int32)) 243 (fun _ q => XS.bipush X71.here hx rfl (hb hby d13_241) q) ?_
  refine own_tp (.int (85 : Int32)) 245 (fun _ q => XS.bipush X71.here hx rfl (hb hby d13_243) q) ?_
  obtain ⟨cl72, Ar72, q72, S72, Nn72, H72, G72⟩ := (id V71')
  have hin72 : ¬ ((10 : Int32) < 0 ∨ cl72.slots.size ≤ ((10 : Int32)).toNatClampNeg) := inb_of S72 ⟨by decide, by decide⟩
  obtain ⟨T73, h73, X73, e73, W73, st73⟩ := stC X71 hx hZ e71 Ar72 (j := (10 : Int32)) hin72 (g := (mkF m 245 #[.val (.int (0 : Int32)), .val (.int (0 : Int32))] [(.int (85 : Int32)), (.int (10 : Int32)), (.ref b51), (.ref b51)])) rfl rfl (hb hby d13_245)
  have V73 := Arv.set Ar72 q72 S72 Nn72 H72 G72 (fits_nar_char _) W73 10 rfl (Nat.le_of_ble_eq_true rfl)
  have N73 := Fr.snoc X73 N71 ge51
  have K73 : Keep h0 h73 [] := K71.wr W73 (Or.inr sz51)
  have Z73 : n0 ≤ h73.size := Nat.le_trans Z71 (Nat.le_of_eq W73.size.symm)
  have V73' : Arv Z h73 b51 k51 .char (13 : Int32) [(.int (114 : Int32)), (.int (101 : Int32)), (.int (112 : Int32)), (.int (58 : Int32)), (.int (83 : Int32)), (.int (121 : Int32)), (.int (115 : Int32)), (.int (116 : Int32)), (.int (101 : Int32)), (.int (109 : Int32)), (.int (85 : Int32)), (.int (0 : Int32)), (.int (0 : Int32))] (.int (0 : Int32)) := V73
  refine own_cs [(.ref b51)] 246 st73 ?_
  refine own_tp (.ref b51) 247 (fun _ q => XS.dup X73.here hx rfl (hb hby d13_246) rfl rfl q) ?_
  refine own_tp (.int (11 : Int32)) 249 (fun _ q => XS.bipush X73.here hx rfl (hb hby d13_247) q) ?_
  refine own_tp (.int (115 : Int32)) 251 (fun _ q => XS.bipush X73.here hx rfl (hb hby d13_249) q) ?_
  obtain ⟨cl74, Ar74, q74, S74, Nn74, H74, G74⟩ := (id V73')
  have hin74 : ¬ ((11 : Int32) < 0 ∨ cl74.slots.size ≤ ((11 : Int32)).toNatClampNeg) := inb_of S74 ⟨by decide, by decide⟩
  obtain ⟨T75, h75, X75, e75, W75, st75⟩ := stC X73 hx hZ e73 Ar74 (j := (11 : Int32)) hin74 (g := (mkF m 251 #[.val (.int (0 : Int32)), .val (.int (0 : Int32))] [(.int (115 : Int32)), (.int (11 : Int32)), (.ref b51), (.ref b51)])) rfl rfl (hb hby d13_251)
  have V75 := Arv.set Ar74 q74 S74 Nn74 H74 G74 (fits_nar_char _) W75 11 rfl (Nat.le_of_ble_eq_true rfl)
  have N75 := Fr.snoc X75 N73 ge51
  have K75 : Keep h0 h75 [] := K73.wr W75 (Or.inr sz51)
  have Z75 : n0 ≤ h75.size := Nat.le_trans Z73 (Nat.le_of_eq W75.size.symm)
  have V75' : Arv Z h75 b51 k51 .char (13 : Int32) [(.int (114 : Int32)), (.int (101 : Int32)), (.int (112 : Int32)), (.int (58 : Int32)), (.int (83 : Int32)), (.int (121 : Int32)), (.int (115 : Int32)), (.int (116 : Int32)), (.int (101 : Int32)), (.int (109 : Int32)), (.int (85 : Int32)), (.int (115 : Int32)), (.int (0 : Int32))] (.int (0 : Int32)) := V75
  refine own_cs [(.ref b51)] 252 st75 ?_
  refine own_tp (.ref b51) 253 (fun _ q => XS.dup X75.here hx rfl (hb hby d13_252) rfl rfl q) ?_
  refine own_tp (.int (12 : Int32)) 255 (fun _ q => XS.bipush X75.here hx rfl (hb hby d13_253) q) ?_
  refine own_tp (.int (101 : Int32)) 257 (fun _ q => XS.bipush X75.here hx rfl (hb hby d13_255) q) ?_
  obtain ⟨cl76, Ar76, q76, S76, Nn76, H76, G76⟩ := (id V75')
  have hin76 : ¬ ((12 : Int32) < 0 ∨ cl76.slots.size ≤ ((12 : Int32)).toNatClampNeg) := inb_of S76 ⟨by decide, by decide⟩
  obtain ⟨T77, h77, X77, e77, W77, st77⟩ := stC X75 hx hZ e75 Ar76 (j := (12 : Int32)) hin76 (g := (mkF m 257 #[.val (.int (0 : Int32)), .val (.int (0 : Int32))] [(.int (101 : Int32)), (.int (12 : Int32)), (.ref b51), (.ref b51)])) rfl rfl (hb hby d13_257)
  have V77 := Arv.set Ar76 q76 S76 Nn76 H76 G76 (fits_nar_char _) W77 12 rfl (Nat.le_of_ble_eq_true rfl)
  have N77 := Fr.snoc X77 N75 ge51
  have K77 : Keep h0 h77 [] := K75.wr W77 (Or.inr sz51)
  have Z77 : n0 ≤ h77.size := Nat.le_trans Z75 (Nat.le_of_eq W77.size.symm)
  have V77' : Arv Z h77 b51 k51 .char (13 : Int32) [(.int (114 : Int32)), (.int (101 : Int32)), (.int (112 : Int32)), (.int (58 : Int32)), (.int (83 : Int32)), (.int (121 : Int32)), (.int (115 : Int32)), (.int (116 : Int32)), (.int (101 : Int32)), (.int (109 : Int32)), (.int (85 : Int32)), (.int (115 : Int32)), (.int (101 : Int32))] (.int (0 : Int32)) := V77
  refine own_cs [(.ref b51)] 258 st77 ?_
  exact own_retR X77 hx hrt (hb hby d13_258) rfl rfl hlk (by decide) (by decide) e77 (⟨b51, _, rfl, N77, K77, ge51, sz51, V77'⟩)

def Q14 (Z : State) (h0 : Heap) (n0 : Nat) (v : Option Value) (h : Heap) (L : List Loc) : Prop := ∃ (b : Addr) (k : ClassId), v = some (.ref b) ∧ Fr n0 L ∧ Keep h0 h [] ∧ n0 ≤ b ∧ h0.size ≤ b ∧ Arv Z h b k .char (8 : Int32) [(.int (114 : Int32)), (.int (101 : Int32)), (.int (112 : Int32)), (.int (58 : Int32)), (.int (85 : Int32)), (.int (115 : Int32)), (.int (101 : Int32)), (.int (114 : Int32))] (.int (0 : Int32))

theorem d14_0 : decode method_5_code 0 = .ok (.iload_n 0, 1) := by decide +kernel
theorem d14_1 : decode method_5_code 1 = .ok (.ifCond .ne 86, 3) := by decide +kernel
theorem d14_87 : decode method_5_code 87 = .ok (.iload_n 0, 1) := by decide +kernel
theorem d14_88 : decode method_5_code 88 = .ok (.iconst 1, 1) := by decide +kernel
theorem d14_89 : decode method_5_code 89 = .ok (.if_icmp .ne 50, 3) := by decide +kernel
theorem d14_92 : decode method_5_code 92 = .ok (.bipush 8, 2) := by decide +kernel
theorem d14_94 : decode method_5_code 94 = .ok (.newarray .char, 2) := by decide +kernel
theorem d14_96 : decode method_5_code 96 = .ok (.dup, 1) := by decide +kernel
theorem d14_97 : decode method_5_code 97 = .ok (.iconst 0, 1) := by decide +kernel
theorem d14_98 : decode method_5_code 98 = .ok (.bipush 114, 2) := by decide +kernel
theorem d14_100 : decode method_5_code 100 = .ok (.castore, 1) := by decide +kernel
theorem d14_101 : decode method_5_code 101 = .ok (.dup, 1) := by decide +kernel
theorem d14_102 : decode method_5_code 102 = .ok (.iconst 1, 1) := by decide +kernel
theorem d14_103 : decode method_5_code 103 = .ok (.bipush 101, 2) := by decide +kernel
theorem d14_105 : decode method_5_code 105 = .ok (.castore, 1) := by decide +kernel
theorem d14_106 : decode method_5_code 106 = .ok (.dup, 1) := by decide +kernel
theorem d14_107 : decode method_5_code 107 = .ok (.iconst 2, 1) := by decide +kernel
theorem d14_108 : decode method_5_code 108 = .ok (.bipush 112, 2) := by decide +kernel
theorem d14_110 : decode method_5_code 110 = .ok (.castore, 1) := by decide +kernel
theorem d14_111 : decode method_5_code 111 = .ok (.dup, 1) := by decide +kernel
theorem d14_112 : decode method_5_code 112 = .ok (.iconst 3, 1) := by decide +kernel
theorem d14_113 : decode method_5_code 113 = .ok (.bipush 58, 2) := by decide +kernel
theorem d14_115 : decode method_5_code 115 = .ok (.castore, 1) := by decide +kernel
theorem d14_116 : decode method_5_code 116 = .ok (.dup, 1) := by decide +kernel
theorem d14_117 : decode method_5_code 117 = .ok (.iconst 4, 1) := by decide +kernel
theorem d14_118 : decode method_5_code 118 = .ok (.bipush 85, 2) := by decide +kernel
theorem d14_120 : decode method_5_code 120 = .ok (.castore, 1) := by decide +kernel
theorem d14_121 : decode method_5_code 121 = .ok (.dup, 1) := by decide +kernel
theorem d14_122 : decode method_5_code 122 = .ok (.iconst 5, 1) := by decide +kernel
theorem d14_123 : decode method_5_code 123 = .ok (.bipush 115, 2) := by decide +kernel
theorem d14_125 : decode method_5_code 125 = .ok (.castore, 1) := by decide +kernel
theorem d14_126 : decode method_5_code 126 = .ok (.dup, 1) := by decide +kernel
theorem d14_127 : decode method_5_code 127 = .ok (.bipush 6, 2) := by decide +kernel
theorem d14_129 : decode method_5_code 129 = .ok (.bipush 101, 2) := by decide +kernel
theorem d14_131 : decode method_5_code 131 = .ok (.castore, 1) := by decide +kernel
theorem d14_132 : decode method_5_code 132 = .ok (.dup, 1) := by decide +kernel
theorem d14_133 : decode method_5_code 133 = .ok (.bipush 7, 2) := by decide +kernel
theorem d14_135 : decode method_5_code 135 = .ok (.bipush 114, 2) := by decide +kernel
theorem d14_137 : decode method_5_code 137 = .ok (.castore, 1) := by decide +kernel
theorem d14_138 : decode method_5_code 138 = .ok (.areturn, 1) := by decide +kernel
theorem pn14 : plainName "com/example/leastwise/leastwise/core/AuthorizableTypeOfPinLaw" = true := by first | (simp [plainName, overriddenIn]; done) | decide +kernel
theorem ef14 (m : MethodId) (x0 : Int32) : entryFrame m #[(.int x0)] 1 = mkF m 0 #[.val (.int x0)] [] := by first | (simp [entryFrame, mkF, argsToLocals, Value.category]; done) | rfl
set_option maxRecDepth 65536 in
set_option maxHeartbeats 40000000 in
theorem rm14 (l : Launch) (Z : State) (a0 : Array Value) (hw : ∀ d ∈ tables_1, d.before a0 Z = true) (ws : List Jvm.Cond)  (h0 : Heap) (n0 : Nat) (Z0 : n0 ≤ h0.size) :
    own_Met l (⟨"com/example/leastwise/leastwise/core/AuthorizableTypeOfPinLaw", "full", "(I)[C"⟩ : MethodName) method_5_code 1 (some (.array .char)) ws ({ frames := 0, cells := 1, slots := 8, locals := 0 } : Room) Z #[(.int (1 : Int32))] h0 (Q14 Z h0 n0) := by
  refine own_enter #[.val (.int (1 : Int32))] (plainFor_of_name pn14) (fun m => ef14 m (1 : Int32)) ?_
  intro p e s m below meth c s₁ hx hby hml hown hnm hZ hrt hlk X0 e0
  have N0 := Fr.nil n0
  refine own_tp (.int (1 : Int32)) 1 (fun _ q => XS.iloadN X0.here hx rfl (hb hby d14_0) rfl q) ?_
  refine own_d1 87 (fun _ q => XS.ifYes X0.here hx rfl (pc0 := 1) (pc' := 87) rfl (hb hby d14_1) rfl ((if0 _ _).trans (feq (by decide : ¬ ((1 : Int32) = (0 : Int32)))).2) (by decide) (by decide) q) ?_
  refine own_tp (.int (1 : Int32)) 88 (fun _ q => XS.iloadN X0.here hx rfl (hb hby d14_87) rfl q) ?_
  refine own_tp (.int (1 : Int32)) 89 (fun _ q => XS.iconst X0.here hx rfl (hb hby d14_88) q) ?_
  refine own_d2 92 (fun _ q => XS.icmpNo X0.here hx rfl (hb hby d14_89) rfl (teq (by decide : (1 : Int32) = (1 : Int32))).2 q) ?_
  refine own_tp (.int (8 : Int32)) 94 (fun _ q => XS.bipush X0.here hx rfl (hb hby d14_92) q) ?_
  obtain ⟨T51, h51, k51, X51, e51, E51, A51, st51⟩ := newP X0 hx hZ (hw _ (List.mem_of_getElem? (i := 8) rfl)) e0 (g := (mkF m 94 #[.val (.int (1 : Int32))] [(.int (8 : Int32))])) rfl (hb hby d14_94) rfl (by decide) (cap := 8) (by decide) (by decide) (by decide) (by decide)
  obtain ⟨b51, g51⟩ : ∃ z, z = h0.size := ⟨_, rfl⟩
  rw [← g51] at A51 st51
  have V51 : Arv Z h51 b51 k51 .char (8 : Int32) [(.int (0 : Int32)), (.int (0 : Int32)), (.int (0 : Int32)), (.int (0 : Int32)), (.int (0 : Int32)), (.int (0 : Int32)), (.int (0 : Int32)), (.int (0 : Int32))] (.int (0 : Int32)) := (Arv.new A51 (by decide)).pad (pad_rep [] (.int (0 : Int32)) 8)
  have ge51 : n0 ≤ b51 := Nat.le_trans Z0 (Nat.le_of_eq g51.symm)
  have sz51 : h0.size ≤ b51 := Nat.le_trans (Keep.refl h0 []).1 (Nat.le_of_eq g51.symm)
  have K51 : Keep h0 h51 [] := (Keep.refl h0 []).ext E51
  have Z51 : n0 ≤ h51.size := Nat.le_trans Z0 E51.1
  refine own_t1 (.ref b51) 96 st51 ?_
  refine own_tp (.ref b51) 97 (fun _ q => XS.dup X51.here hx rfl (hb hby d14_96) rfl rfl q) ?_
  refine own_tp (.int (0 : Int32)) 98 (fun _ q => XS.iconst X51.here hx rfl (hb hby d14_97) q) ?_
  refine own_tp (.int (114 : Int32)) 100 (fun _ q => XS.bipush X51.here hx rfl (hb hby d14_98) q) ?_
  obtain ⟨cl52, Ar52, q52, S52, Nn52, H52, G52⟩ := (id V51)
  have hin52 : ¬ ((0 : Int32) < 0 ∨ cl52.slots.size ≤ ((0 : Int32)).toNatClampNeg) := inb_of S52 ⟨by decide, by decide⟩
  obtain ⟨T53, h53, X53, e53, W53, st53⟩ := stC X51 hx hZ e51 Ar52 (j := (0 : Int32)) hin52 (g := (mkF m 100 #[.val (.int (1 : Int32))] [(.int (114 : Int32)), (.int (0 : Int32)), (.ref b51), (.ref b51)])) rfl rfl (hb hby d14_100)
  have V53 := Arv.set Ar52 q52 S52 Nn52 H52 G52 (fits_nar_char _) W53 0 rfl (Nat.le_of_ble_eq_true rfl)
  have N53 := Fr.snoc X53 N0 ge51
  have K53 : Keep h0 h53 [] := K51.wr W53 (Or.inr sz51)
  have Z53 : n0 ≤ h53.size := Nat.le_trans Z51 (Nat.le_of_eq W53.size.symm)
  have V53' : Arv Z h53 b51 k51 .char (8 : Int32) [(.int (114 : Int32)), (.int (0 : Int32)), (.int (0 : Int32)), (.int (0 : Int32)), (.int (0 : Int32)), (.int (0 : Int32)), (.int (0 : Int32)), (.int (0 : Int32))] (.int (0 : Int32)) := V53
  refine own_cs [(.ref b51)] 101 st53 ?_
  refine own_tp (.ref b51) 102 (fun _ q => XS.dup X53.here hx rfl (hb hby d14_101) rfl rfl q) ?_
  refine own_tp (.int (1 : Int32)) 103 (fun _ q => XS.iconst X53.here hx rfl (hb hby d14_102) q) ?_
  refine own_tp (.int (101 : Int32)) 105 (fun _ q => XS.bipush X53.here hx rfl (hb hby d14_103) q) ?_
  obtain ⟨cl54, Ar54, q54, S54, Nn54, H54, G54⟩ := (id V53')
  have hin54 : ¬ ((1 : Int32) < 0 ∨ cl54.slots.size ≤ ((1 : Int32)).toNatClampNeg) := inb_of S54 ⟨by decide, by decide⟩
  obtain ⟨T55, h55, X55, e55, W55, st55⟩ := stC X53 hx hZ e53 Ar54 (j := (1 : Int32)) hin54 (g := (mkF m 105 #[.val (.int (1 : Int32))] [(.int (101 : Int32)), (.int (1 : Int32)), (.ref b51), (.ref b51)])) rfl rfl (hb hby d14_105)
  have V55 := Arv.set Ar54 q54 S54 Nn54 H54 G54 (fits_nar_char _) W55 1 rfl (Nat.le_of_ble_eq_true rfl)
  have N55 := Fr.snoc X55 N53 ge51
  have K55 : Keep h0 h55 [] := K53.wr W55 (Or.inr sz51)
  have Z55 : n0 ≤ h55.size := Nat.le_trans Z53 (Nat.le_of_eq W55.size.symm)
  have V55' : Arv Z h55 b51 k51 .char (8 : Int32) [(.int (114 : Int32)), (.int (101 : Int32)), (.int (0 : Int32)), (.int (0 : Int32)), (.int (0 : Int32)), (.int (0 : Int32)), (.int (0 : Int32)), (.int (0 : Int32))] (.int (0 : Int32)) := V55
  refine own_cs [(.ref b51)] 106 st55 ?_
  refine own_tp (.ref b51) 107 (fun _ q => XS.dup X55.here hx rfl (hb hby d14_106) rfl rfl q) ?_
  refine own_tp (.int (2 : Int32)) 108 (fun _ q => XS.iconst X55.here hx rfl (hb hby d14_107) q) ?_
  refine own_tp (.int (112 : Int32)) 110 (fun _ q => XS.bipush X55.here hx rfl (hb hby d14_108) q) ?_
  obtain ⟨cl56, Ar56, q56, S56, Nn56, H56, G56⟩ := (id V55')
  have hin56 : ¬ ((2 : Int32) < 0 ∨ cl56.slots.size ≤ ((2 : Int32)).toNatClampNeg) := inb_of S56 ⟨by decide, by decide⟩
  obtain ⟨T57, h57, X57, e57, W57, st57⟩ := stC X55 hx hZ e55 Ar56 (j := (2 : Int32)) hin56 (g := (mkF m 110 #[.val (.int (1 : Int32))] [(.int (112 : Int32)), (.int (2 : Int32)), (.ref b51), (.ref b51)])) rfl rfl (hb hby d14_110)
  have V57 := Arv.set Ar56 q56 S56 Nn56 H56 G56 (fits_nar_char _) W57 2 rfl (Nat.le_of_ble_eq_true rfl)
  have N57 := Fr.snoc X57 N55 ge51
  have K57 : Keep h0 h57 [] := K55.wr W57 (Or.inr sz51)
  have Z57 : n0 ≤ h57.size := Nat.le_trans Z55 (Nat.le_of_eq W57.size.symm)
  have V57' : Arv Z h57 b51 k51 .char (8 : Int32) [(.int (114 : Int32)), (.int (101 : Int32)), (.int (112 : Int32)), (.int (0 : Int32)), (.int (0 : Int32)), (.int (0 : Int32)), (.int (0 : Int32)), (.int (0 : Int32))] (.int (0 : Int32)) := V57
  refine own_cs [(.ref b51)] 111 st57 ?_
  refine own_tp (.ref b51) 112 (fun _ q => XS.dup X57.here hx rfl (hb hby d14_111) rfl rfl q) ?_
  refine own_tp (.int (3 : Int32)) 113 (fun _ q => XS.iconst X57.here hx rfl (hb hby d14_112) q) ?_
  refine own_tp (.int (58 : Int32)) 115 (fun _ q => XS.bipush X57.here hx rfl (hb hby d14_113) q) ?_
  obtain ⟨cl58, Ar58, q58, S58, Nn58, H58, G58⟩ := (id V57')
  have hin58 : ¬ ((3 : Int32) < 0 ∨ cl58.slots.size ≤ ((3 : Int32)).toNatClampNeg) := inb_of S58 ⟨by decide, by decide⟩
  obtain ⟨T59, h59, X59, e59, W59, st59⟩ := stC X57 hx hZ e57 Ar58 (j := (3 : Int32)) hin58 (g := (mkF m 115 #[.val (.int (1 : Int32))] [(.int (58 : Int32)), (.int (3 : Int32)), (.ref b51), (.ref b51)])) rfl rfl (hb hby d14_115)
  have V59 := Arv.set Ar58 q58 S58 Nn58 H58 G58 (fits_nar_char _) W59 3 rfl (Nat.le_of_ble_eq_true rfl)
  have N59 := Fr.snoc X59 N57 ge51
  have K59 : Keep h0 h59 [] := K57.wr W59 (Or.inr sz51)
  have Z59 : n0 ≤ h59.size := Nat.le_trans Z57 (Nat.le_of_eq W59.size.symm)
  have V59' : Arv Z h59 b51 k51 .char (8 : Int32) [(.int (114 : Int32)), (.int (101 : Int32)), (.int (112 : Int32)), (.int (58 : Int32)), (.int (0 : Int32)), (.int (0 : Int32)), (.int (0 : Int32)), (.int (0 : Int32))] (.int (0 : Int32)) := V59
  refine own_cs [(.ref b51)] 116 st59 ?_
  refine own_tp (.ref b51) 117 (fun _ q => XS.dup X59.here hx rfl (hb hby d14_116) rfl rfl q) ?_
  refine own_tp (.int (4 : Int32)) 118 (fun _ q => XS.iconst X59.here hx rfl (hb hby d14_117) q) ?_
  refine own_tp (.int (85 : Int32)) 120 (fun _ q => XS.bipush X59.here hx rfl (hb hby d14_118) q) ?_
  obtain ⟨cl60, Ar60, q60, S60, Nn60, H60, G60⟩ := (id V59')
  have hin60 : ¬ ((4 : Int32) < 0 ∨ cl60.slots.size ≤ ((4 : Int32)).toNatClampNeg) := inb_of S60 ⟨by decide, by decide⟩
  obtain ⟨T61, h61, X61, e61, W61, st61⟩ := stC X59 hx hZ e59 Ar60 (j := (4 : Int32)) hin60 (g := (mkF m 120 #[.val (.int (1 : Int32))] [(.int (85 : Int32)), (.int (4 : Int32)), (.ref b51), (.ref b51)])) rfl rfl (hb hby d14_120)
  have V61 := Arv.set Ar60 q60 S60 Nn60 H60 G60 (fits_nar_char _) W61 4 rfl (Nat.le_of_ble_eq_true rfl)
  have N61 := Fr.snoc X61 N59 ge51
  have K61 : Keep h0 h61 [] := K59.wr W61 (Or.inr sz51)
  have Z61 : n0 ≤ h61.size := Nat.le_trans Z59 (Nat.le_of_eq W61.size.symm)
  have V61' : Arv Z h61 b51 k51 .char (8 : Int32) [(.int (114 : Int32)), (.int (101 : Int32)), (.int (112 : Int32)), (.int (58 : Int32)), (.int (85 : Int32)), (.int (0 : Int32)), (.int (0 : Int32)), (.int (0 : Int32))] (.int (0 : Int32)) := V61
  refine own_cs [(.ref b51)] 121 st61 ?_
  refine own_tp (.ref b51) 122 (fun _ q => XS.dup X61.here hx rfl (hb hby d14_121) rfl rfl q) ?_
  refine own_tp (.int (5 : Int32)) 123 (fun _ q => XS.iconst X61.here hx rfl (hb hby d14_122) q) ?_
  refine own_tp (.int (115 : Int32)) 125 (fun _ q => XS.bipush X61.here hx rfl (hb hby d14_123) q) ?_
  obtain ⟨cl62, Ar62, q62, S62, Nn62, H62, G62⟩ := (id V61')
  have hin62 : ¬ ((5 : Int32) < 0 ∨ cl62.slots.size ≤ ((5 : Int32)).toNatClampNeg) := inb_of S62 ⟨by decide, by decide⟩
  obtain ⟨T63, h63, X63, e63, W63, st63⟩ := stC X61 hx hZ e61 Ar62 (j := (5 : Int32)) hin62 (g := (mkF m 125 #[.val (.int (1 : Int32))] [(.int (115 : Int32)), (.int (5 : Int32)), (.ref b51), (.ref b51)])) rfl rfl (hb hby d14_125)
  have V63 := Arv.set Ar62 q62 S62 Nn62 H62 G62 (fits_nar_char _) W63 5 rfl (Nat.le_of_ble_eq_true rfl)
  have N63 := Fr.snoc X63 N61 ge51
  have K63 : Keep h0 h63 [] := K61.wr W63 (Or.inr sz51)
  have Z63 : n0 ≤ h63.size := Nat.le_trans Z61 (Nat.le_of_eq W63.size.symm)
  have V63' : Arv Z h63 b51 k51 .char (8 : Int32) [(.int (114 : Int32)), (.int (101 : Int32)), (.int (112 : Int32)), (.int (58 : Int32)), (.int (85 : Int32)), (.int (115 : Int32)), (.int (0 : Int32)), (.int (0 : Int32))] (.int (0 : Int32)) := V63
  refine own_cs [(.ref b51)] 126 st63 ?_
  refine own_tp (.ref b51) 127 (fun _ q => XS.dup X63.here hx rfl (hb hby d14_126) rfl rfl q) ?_
  refine own_tp (.int (6 : Int32)) 129 (fun _ q => XS.bipush X63.here hx rfl (hb hby d14_127) q) ?_
  refine own_tp (.int (101 : Int32)) 131 (fun _ q => XS.bipush X63.here hx rfl (hb hby d14_129) q) ?_
  obtain ⟨cl64, Ar64, q64, S64, Nn64, H64, G64⟩ := (id V63')
  have hin64 : ¬ ((6 : Int32) < 0 ∨ cl64.slots.size ≤ ((6 : Int32)).toNatClampNeg) := inb_of S64 ⟨by decide, by decide⟩
  obtain ⟨T65, h65, X65, e65, W65, st65⟩ := stC X63 hx hZ e63 Ar64 (j := (6 : Int32)) hin64 (g := (mkF m 131 #[.val (.int (1 : Int32))] [(.int (101 : Int32)), (.int (6 : Int32)), (.ref b51), (.ref b51)])) rfl rfl (hb hby d14_131)
  have V65 := Arv.set Ar64 q64 S64 Nn64 H64 G64 (fits_nar_char _) W65 6 rfl (Nat.le_of_ble_eq_true rfl)
  have N65 := Fr.snoc X65 N63 ge51
  have K65 : Keep h0 h65 [] := K63.wr W65 (Or.inr sz51)
  have Z65 : n0 ≤ h65.size := Nat.le_trans Z63 (Nat.le_of_eq W65.size.symm)
  have V65' : Arv Z h65 b51 k51 .char (8 : Int32) [(.int (114 : Int32)), (.int (101 : Int32)), (.int (112 : Int32)), (.int (58 : Int32)), (.int (85 : Int32)), (.int (115 : Int32)), (.int (101 : Int32)), (.int (0 : Int32))] (.int (0 : Int32)) := V65
  refine own_cs [(.ref b51)] 132 st65 ?_
  refine own_tp (.ref b51) 133 (fun _ q => XS.dup X65.here hx rfl (hb hby d14_132) rfl rfl q) ?_
  refine own_tp (.int (7 : Int32)) 135 (fun _ q => XS.bipush X65.here hx rfl (hb hby d14_133) q) ?_
  refine own_tp (.int (114 : Int32)) 137 (fun _ q => XS.bipush X65.here hx rfl (hb hby d14_135) q) ?_
  obtain ⟨cl66, Ar66, q66, S66, Nn66, H66, G66⟩ := (id V65')
  have hin66 : ¬ ((7 : Int32) < 0 ∨ cl66.slots.size ≤ ((7 : Int32)).toNatClampNeg) := inb_of S66 ⟨by decide, by decide⟩
  obtain ⟨T67, h67, X67, e67, W67, st67⟩ := stC X65 hx hZ e65 Ar66 (j := (7 : Int32)) hin66 (g := (mkF m 137 #[.val (.int (1 : Int32))] [(.int (114 : Int32)), (.int (7 : Int32)), (.ref b51), (.ref b51)])) rfl rfl (hb hby d14_137)
  have V67 := Arv.set Ar66 q66 S66 Nn66 H66 G66 (fits_nar_char _) W67 7 rfl (Nat.le_of_ble_eq_true rfl)
  have N67 := Fr.snoc X67 N65 ge51
  have K67 : Keep h0 h67 [] := K65.wr W67 (Or.inr sz51)
  have Z67 : n0 ≤ h67.size := Nat.le_trans Z65 (Nat.le_of_eq W67.size.symm)
  have V67' : Arv Z h67 b51 k51 .char (8 : Int32) [(.int (114 : Int32)), (.int (101 : Int32)), (.int (112 : Int32)), (.int (58 : Int32)), (.int (85 : Int32)), (.int (115 : Int32)), (.int (101 : Int32)), (.int (114 : Int32))] (.int (0 : Int32)) := V67
  refine own_cs [(.ref b51)] 138 st67 ?_
  exact own_retR X67 hx hrt (hb hby d14_138) rfl rfl hlk (by decide) (by decide) e67 (⟨b51, _, rfl, N67, K67, ge51, sz51, V67'⟩)

def Q15 (Z : State) (h0 : Heap) (n0 : Nat) (v : Option Value) (h : Heap) (L : List Loc) : Prop := ∃ (b : Addr) (k : ClassId), v = some (.ref b) ∧ Fr n0 L ∧ Keep h0 h [] ∧ n0 ≤ b ∧ h0.size ≤ b ∧ Arv Z h b k .char (9 : Int32) [(.int (114 : Int32)), (.int (101 : Int32)), (.int (112 : Int32)), (.int (58 : Int32)), (.int (85 : Int32)), (.int (115 : Int32)), (.int (101 : Int32)), (.int (114 : Int32)), (.int (32 : Int32))] (.int (0 : Int32))

theorem d15_0 : decode method_6_code 0 = .ok (.iload_n 0, 1) := by decide +kernel
theorem d15_1 : decode method_6_code 1 = .ok (.ifCond .ne 92, 3) := by decide +kernel
theorem d15_93 : decode method_6_code 93 = .ok (.iload_n 0, 1) := by decide +kernel
theorem d15_94 : decode method_6_code 94 = .ok (.iconst 1, 1) := by decide +kernel
theorem d15_95 : decode method_6_code 95 = .ok (.if_icmp .ne 56, 3) := by decide +kernel
theorem d15_98 : decode method_6_code 98 = .ok (.bipush 9, 2) := by decide +kernel
theorem d15_100 : decode method_6_code 100 = .ok (.newarray .char, 2) := by decide +kernel
theorem d15_102 : decode method_6_code 102 = .ok (.dup, 1) := by decide +kernel
theorem d15_103 : decode method_6_code 103 = .ok (.iconst 0, 1) := by decide +kernel
theorem d15_104 : decode method_6_code 104 = .ok (.bipush 114, 2) := by decide +kernel
theorem d15_106 : decode method_6_code 106 = .ok (.castore, 1) := by decide +kernel
theorem d15_107 : decode method_6_code 107 = .ok (.dup, 1) := by decide +kernel
theorem d15_108 : decode method_6_code 108 = .ok (.iconst 1, 1) := by decide +kernel
theorem d15_109 : decode method_6_code 109 = .ok (.bipush 101, 2) := by decide +kernel
theorem d15_111 : decode method_6_code 111 = .ok (.castore, 1) := by decide +kernel
theorem d15_112 : decode method_6_code 112 = .ok (.dup, 1) := by decide +kernel
theorem d15_113 : decode method_6_code 113 = .ok (.iconst 2, 1) := by decide +kernel
theorem d15_114 : decode method_6_code 114 = .ok (.bipush 112, 2) := by decide +kernel
theorem d15_116 : decode method_6_code 116 = .ok (.castore, 1) := by decide +kernel
theorem d15_117 : decode method_6_code 117 = .ok (.dup, 1) := by decide +kernel
theorem d15_118 : decode method_6_code 118 = .ok (.iconst 3, 1) := by decide +kernel
theorem d15_119 : decode method_6_code 119 = .ok (.bipush 58, 2) := by decide +kernel
theorem d15_121 : decode method_6_code 121 = .ok (.castore, 1) := by decide +kernel
theorem d15_122 : decode method_6_code 122 = .ok (.dup, 1) := by decide +kernel
theorem d15_123 : decode method_6_code 123 = .ok (.iconst 4, 1) := by decide +kernel
theorem d15_124 : decode method_6_code 124 = .ok (.bipush 85, 2) := by decide +kernel
theorem d15_126 : decode method_6_code 126 = .ok (.castore, 1) := by decide +kernel
theorem d15_127 : decode method_6_code 127 = .ok (.dup, 1) := by decide +kernel
theorem d15_128 : decode method_6_code 128 = .ok (.iconst 5, 1) := by decide +kernel
theorem d15_129 : decode method_6_code 129 = .ok (.bipush 115, 2) := by decide +kernel
theorem d15_131 : decode method_6_code 131 = .ok (.castore, 1) := by decide +kernel
theorem d15_132 : decode method_6_code 132 = .ok (.dup, 1) := by decide +kernel
theorem d15_133 : decode method_6_code 133 = .ok (.bipush 6, 2) := by decide +kernel
theorem d15_135 : decode method_6_code 135 = .ok (.bipush 101, 2) := by decide +kernel
theorem d15_137 : decode method_6_code 137 = .ok (.castore, 1) := by decide +kernel
theorem d15_138 : decode method_6_code 138 = .ok (.dup, 1) := by decide +kernel
theorem d15_139 : decode method_6_code 139 = .ok (.bipush 7, 2) := by decide +kernel
theorem d15_141 : decode method_6_code 141 = .ok (.bipush 114, 2) := by decide +kernel
theorem d15_143 : decode method_6_code 143 = .ok (.castore, 1) := by decide +kernel
theorem d15_144 : decode method_6_code 144 = .ok (.dup, 1) := by decide +kernel
theorem d15_145 : decode method_6_code 145 = .ok (.bipush 8, 2) := by decide +kernel
theorem d15_147 : decode method_6_code 147 = .ok (.bipush 32, 2) := by decide +kernel
theorem d15_149 : decode method_6_code 149 = .ok (.castore, 1) := by decide +kernel
theorem d15_150 : decode method_6_code 150 = .ok (.areturn, 1) := by decide +kernel
theorem pn15 : plainName "com/example/leastwise/leastwise/core/AuthorizableTypeOfPinLaw" = true := by first | (simp [plainName, overriddenIn]; done) | decide +kernel
theorem ef15 (m : MethodId) (x0 : Int32) : entryFrame m #[(.int x0)] 1 = mkF m 0 #[.val (.int x0)] [] := by first | (simp [entryFrame, mkF, argsToLocals, Value.category]; done) | rfl
set_option maxRecDepth 65536 in
set_option maxHeartbeats 40000000 in
theorem rm15 (l : Launch) (Z : State) (a0 : Array Value) (hw : ∀ d ∈ tables_1, d.before a0 Z = true) (ws : List Jvm.Cond)  (h0 : Heap) (n0 : Nat) (Z0 : n0 ≤ h0.size) :
    own_Met l (⟨"com/example/leastwise/leastwise/core/AuthorizableTypeOfPinLaw", "extended", "(I)[C"⟩ : MethodName) method_6_code 1 (some (.array .char)) ws ({ frames := 0, cells := 1, slots := 9, locals := 0 } : Room) Z #[(.int (1 : Int32))] h0 (Q15 Z h0 n0) := by
  refine own_enter #[.val (.int (1 : Int32))] (plainFor_of_name pn15) (fun m => ef15 m (1 : Int32)) ?_
  intro p e s m below meth c s₁ hx hby hml hown hnm hZ hrt hlk X0 e0
  have N0 := Fr.nil n0
  refine own_tp (.int (1 : Int32)) 1 (fun _ q => XS.iloadN X0.here hx rfl (hb hby d15_0) rfl q) ?_
  refine own_d1 93 (fun _ q => XS.ifYes X0.here hx rfl (pc0 := 1) (pc' := 93) rfl (hb hby d15_1) rfl ((if0 _ _).trans (feq (by decide : ¬ ((1 : Int32) = (0 : Int32)))).2) (by decide) (by decide) q) ?_
  refine own_tp (.int (1 : Int32)) 94 (fun _ q => XS.iloadN X0.here hx rfl (hb hby d15_93) rfl q) ?_
  refine own_tp (.int (1 : Int32)) 95 (fun _ q => XS.iconst X0.here hx rfl (hb hby d15_94) q) ?_
  refine own_d2 98 (fun _ q => XS.icmpNo X0.here hx rfl (hb hby d15_95) rfl (teq (by decide : (1 : Int32) = (1 : Int32))).2 q) ?_
  refine own_tp (.int (9 : Int32)) 100 (fun _ q => XS.bipush X0.here hx rfl (hb hby d15_98) q) ?_
  obtain ⟨T51, h51, k51, X51, e51, E51, A51, st51⟩ := newP X0 hx hZ (hw _ (List.mem_of_getElem? (i := 8) rfl)) e0 (g := (mkF m 100 #[.val (.int (1 : Int32))] [(.int (9 : Int32))])) rfl (hb hby d15_100) rfl (by decide) (cap := 9) (by decide) (by decide) (by decide) (by decide)
  obtain ⟨b51, g51⟩ : ∃ z, z = h0.size := ⟨_, rfl⟩
  rw [← g51] at A51 st51
  have V51 : Arv Z h51 b51 k51 .char (9 : Int32) [(.int (0 : Int32)), (.int (0 : Int32)), (.int (0 : Int32)), (.int (0 : Int32)), (.int (0 : Int32)), (.int (0 : Int32)), (.int (0 : Int32)), (.int (0 : Int32)), (.int (0 : Int32))] (.int (0 : Int32)) := (Arv.new A51 (by decide)).pad (pad_rep [] (.int (0 : Int32)) 9)
  have ge51 : n0 ≤ b51 := Nat.le_trans Z0 (Nat.le_of_eq g51.symm)
  have sz51 : h0.size ≤ b51 := Nat.le_trans (Keep.refl h0 []).1 (Nat.le_of_eq g51.symm)
  have K51 : Keep h0 h51 [] := (Keep.refl h0 []).ext E51
  have Z51 : n0 ≤ h51.size := Nat.le_trans Z0 E51.1
  refine own_t1 (.ref b51) 102 st51 ?_
  refine own_tp (.ref b51) 103 (fun _ q => XS.dup X51.here hx rfl (hb hby d15_102) rfl rfl q) ?_
  refine own_tp (.int (0 : Int32)) 104 (fun _ q => XS.iconst X51.here hx rfl (hb hby d15_103) q) ?_
  refine own_tp (.int (114 : Int32)) 106 (fun _ q => XS.bipush X51.here hx rfl (hb hby d15_104) q) ?_
  obtain ⟨cl52, Ar52, q52, S52, Nn52, H52, G52⟩ := (id V51)
  have hin52 : ¬ ((0 : Int32) < 0 ∨ cl52.slots.size ≤ ((0 : Int32)).toNatClampNeg) := inb_of S52 ⟨by decide, by decide⟩
  obtain ⟨T53, h53, X53, e53, W53, st53⟩ := stC X51 hx hZ e51 Ar52 (j := (0 : Int32)) hin52 (g := (mkF m 106 #[.val (.int (1 : Int32))] [(.int (114 : Int32)), (.int (0 : Int32)), (.ref b51), (.ref b51)])) rfl rfl (hb hby d15_106)
  have V53 := Arv.set Ar52 q52 S52 Nn52 H52 G52 (fits_nar_char _) W53 0 rfl (Nat.le_of_ble_eq_true rfl)
  have N53 := Fr.snoc X53 N0 ge51
  have K53 : Keep h0 h53 [] := K51.wr W53 (Or.inr sz51)
  have Z53 : n0 ≤ h53.size := Nat.le_trans Z51 (Nat.le_of_eq W53.size.symm)
  have V53' : Arv Z h53 b51 k51 .char (9 : Int32) [(.int (114 : Int32)), (.int (0 : Int32)), (.int (0 : Int32)), (.int (0 : Int32)), (.int (0 : Int32)), (.int (0 : Int32)), (.int (0 : Int32)), (.int (0 : Int32)), (.int (0 : Int32))] (.int (0 : Int32)) := V53
  refine own_cs [(.ref b51)] 107 st53 ?_
  refine own_tp (.ref b51) 108 (fun _ q => XS.dup X53.here hx rfl (hb hby d15_107) rfl rfl q) ?_
  refine own_tp (.int (1 : Int32)) 109 (fun _ q => XS.iconst X53.here hx rfl (hb hby d15_108) q) ?_
  refine own_tp (.int (101 : Int32)) 111 (fun _ q => XS.bipush X53.here hx rfl (hb hby d15_109) q) ?_
  obtain ⟨cl54, Ar54, q54, S54, Nn54, H54, G54⟩ := (id V53')
  have hin54 : ¬ ((1 : Int32) < 0 ∨ cl54.slots.size ≤ ((1 : Int32)).toNatClampNeg) := inb_of S54 ⟨by decide, by decide⟩
  obtain ⟨T55, h55, X55, e55, W55, st55⟩ := stC X53 hx hZ e53 Ar54 (j := (1 : Int32)) hin54 (g := (mkF m 111 #[.val (.int (1 : Int32))] [(.int (101 : Int32)), (.int (1 : Int32)), (.ref b51), (.ref b51)])) rfl rfl (hb hby d15_111)
  have V55 := Arv.set Ar54 q54 S54 Nn54 H54 G54 (fits_nar_char _) W55 1 rfl (Nat.le_of_ble_eq_true rfl)
  have N55 := Fr.snoc X55 N53 ge51
  have K55 : Keep h0 h55 [] := K53.wr W55 (Or.inr sz51)
  have Z55 : n0 ≤ h55.size := Nat.le_trans Z53 (Nat.le_of_eq W55.size.symm)
  have V55' : Arv Z h55 b51 k51 .char (9 : Int32) [(.int (114 : Int32)), (.int (101 : Int32)), (.int (0 : Int32)), (.int (0 : Int32)), (.int (0 : Int32)), (.int (0 : Int32)), (.int (0 : Int32)), (.int (0 : Int32)), (.int (0 : Int32))] (.int (0 : Int32)) := V55
  refine own_cs [(.ref b51)] 112 st55 ?_
  refine own_tp (.ref b51) 113 (fun _ q => XS.dup X55.here hx rfl (hb hby d15_112) rfl rfl q) ?_
  refine own_tp (.int (2 : Int32)) 114 (fun _ q => XS.iconst X55.here hx rfl (hb hby d15_113) q) ?_
  refine own_tp (.int (112 : Int32)) 116 (fun _ q => XS.bipush X55.here hx rfl (hb hby d15_114) q) ?_
  obtain ⟨cl56, Ar56, q56, S56, Nn56, H56, G56⟩ := (id V55')
  have hin56 : ¬ ((2 : Int32) < 0 ∨ cl56.slots.size ≤ ((2 : Int32)).toNatClampNeg) := inb_of S56 ⟨by decide, by decide⟩
  obtain ⟨T57, h57, X57, e57, W57, st57⟩ := stC X55 hx hZ e55 Ar56 (j := (2 : Int32)) hin56 (g := (mkF m 116 #[.val (.int (1 : Int32))] [(.int (112 : Int32)), (.int (2 : Int32)), (.ref b51), (.ref b51)])) rfl rfl (hb hby d15_116)
  have V57 := Arv.set Ar56 q56 S56 Nn56 H56 G56 (fits_nar_char _) W57 2 rfl (Nat.le_of_ble_eq_true rfl)
  have N57 := Fr.snoc X57 N55 ge51
  have K57 : Keep h0 h57 [] := K55.wr W57 (Or.inr sz51)
  have Z57 : n0 ≤ h57.size := Nat.le_trans Z55 (Nat.le_of_eq W57.size.symm)
  have V57' : Arv Z h57 b51 k51 .char (9 : Int32) [(.int (114 : Int32)), (.int (101 : Int32)), (.int (112 : Int32)), (.int (0 : Int32)), (.int (0 : Int32)), (.int (0 : Int32)), (.int (0 : Int32)), (.int (0 : Int32)), (.int (0 : Int32))] (.int (0 : Int32)) := V57
  refine own_cs [(.ref b51)] 117 st57 ?_
  refine own_tp (.ref b51) 118 (fun _ q => XS.dup X57.here hx rfl (hb hby d15_117) rfl rfl q) ?_
  refine own_tp (.int (3 : Int32)) 119 (fun _ q => XS.iconst X57.here hx rfl (hb hby d15_118) q) ?_
  refine own_tp (.int (58 : Int32)) 121 (fun _ q => XS.bipush X57.here hx rfl (hb hby d15_119) q) ?_
  obtain ⟨cl58, Ar58, q58, S58, Nn58, H58, G58⟩ := (id V57')
  have hin58 : ¬ ((3 : Int32) < 0 ∨ cl58.slots.size ≤ ((3 : Int32)).toNatClampNeg) := inb_of S58 ⟨by decide, by decide⟩
  obtain ⟨T59, h59, X59, e59, W59, st59⟩ := stC X57 hx hZ e57 Ar58 (j := (3 : Int32)) hin58 (g := (mkF m 121 #[.val (.int (1 : Int32))] [(.int (58 : Int32)), (.int (3 : Int32)), (.ref b51), (.ref b51)])) rfl rfl (hb hby d15_121)
  have V59 := Arv.set Ar58 q58 S58 Nn58 H58 G58 (fits_nar_char _) W59 3 rfl (Nat.le_of_ble_eq_true rfl)
  have N59 := Fr.snoc X59 N57 ge51
  have K59 : Keep h0 h59 [] := K57.wr W59 (Or.inr sz51)
  have Z59 : n0 ≤ h59.size := Nat.le_trans Z57 (Nat.le_of_eq W59.size.symm)
  have V59' : Arv Z h59 b51 k51 .char (9 : Int32) [(.int (114 : Int32)), (.int (101 : Int32)), (.int (112 : Int32)), (.int (58 : Int32)), (.int (0 : Int32)), (.int (0 : Int32)), (.int (0 : Int32)), (.int (0 : Int32)), (.int (0 : Int32))] (.int (0 : Int32)) := V59
  refine own_cs [(.ref b51)] 122 st59 ?_
  refine own_tp (.ref b51) 123 (fun _ q => XS.dup X59.here hx rfl (hb hby d15_122) rfl rfl q) ?_
  refine own_tp (.int (4 : Int32)) 124 (fun _ q => XS.iconst X59.here hx rfl (hb hby d15_123) q) ?_
  refine own_tp (.int (85 : Int32)) 126 (fun _ q => XS.bipush X59.here hx rfl (hb hby d15_124) q) ?_
  obtain ⟨cl60, Ar60, q60, S60, Nn60, H60, G60⟩ := (id V59')
  have hin60 : ¬ ((4 : Int32) < 0 ∨ cl60.slots.size ≤ ((4 : Int32)).toNatClampNeg) := inb_of S60 ⟨by decide, by decide⟩
  obtain ⟨T61, h61, X61, e61, W61, st61⟩ := stC X59 hx hZ e59 Ar60 (j := (4 : Int32)) hin60 (g := (mkF m 126 #[.val (.int (1 : Int32))] [(.int (85 : Int32)), (.int (4 : Int32)), (.ref b51), (.ref b51)])) rfl rfl (hb hby d15_126)
  have V61 := Arv.set Ar60 q60 S60 Nn60 H60 G60 (fits_nar_char _) W61 4 rfl (Nat.le_of_ble_eq_true rfl)
  have N61 := Fr.snoc X61 N59 ge51
  have K61 : Keep h0 h61 [] := K59.wr W61 (Or.inr sz51)
  have Z61 : n0 ≤ h61.size := Nat.le_trans Z59 (Nat.le_of_eq W61.size.symm)
  have V61' : Arv Z h61 b51 k51 .char (9 : Int32) [(.int (114 : Int32)), (.int (101 : Int32)), (.int (112 : Int32)), (.int (58 : Int32)), (.int (85 : Int32)), (.int (0 : Int32)), (.int (0 : Int32)), (.int (0 : Int32)), (.int (0 : Int32))] (.int (0 : Int32)) := V61
  refine own_cs [(.ref b51)] 127 st61 ?_
  refine own_tp (.ref b51) 128 (fun _ q => XS.dup X61.here hx rfl (hb hby d15_127) rfl rfl q) ?_
  refine own_tp (.int (5 : Int32)) 129 (fun _ q => XS.iconst X61.here hx rfl (hb hby d15_128) q) ?_
  refine own_tp (.int (115 : Int32)) 131 (fun _ q => XS.bipush X61.here hx rfl (hb hby d15_129) q) ?_
  obtain ⟨cl62, Ar62, q62, S62, Nn62, H62, G62⟩ := (id V61')
  have hin62 : ¬ ((5 : Int32) < 0 ∨ cl62.slots.size ≤ ((5 : Int32)).toNatClampNeg) := inb_of S62 ⟨by decide, by decide⟩
  obtain ⟨T63, h63, X63, e63, W63, st63⟩ := stC X61 hx hZ e61 Ar62 (j := (5 : Int32)) hin62 (g := (mkF m 131 #[.val (.int (1 : Int32))] [(.int (115 : Int32)), (.int (5 : Int32)), (.ref b51), (.ref b51)])) rfl rfl (hb hby d15_131)
  have V63 := Arv.set Ar62 q62 S62 Nn62 H62 G62 (fits_nar_char _) W63 5 rfl (Nat.le_of_ble_eq_true rfl)
  have N63 := Fr.snoc X63 N61 ge51
  have K63 : Keep h0 h63 [] := K61.wr W63 (Or.inr sz51)
  have Z63 : n0 ≤ h63.size := Nat.le_trans Z61 (Nat.le_of_eq W63.size.symm)
  have V63' : Arv Z h63 b51 k51 .char (9 : Int32) [(.int (114 : Int32)), (.int (101 : Int32)), (.int (112 : Int32)), (.int (58 : Int32)), (.int (85 : Int32)), (.int (115 : Int32)), (.int (0 : Int32)), (.int (0 : Int32)), (.int (0 : Int32))] (.int (0 : Int32)) := V63
  refine own_cs [(.ref b51)] 132 st63 ?_
  refine own_tp (.ref b51) 133 (fun _ q => XS.dup X63.here hx rfl (hb hby d15_132) rfl rfl q) ?_
  refine own_tp (.int (6 : Int32)) 135 (fun _ q => XS.bipush X63.here hx rfl (hb hby d15_133) q) ?_
  refine own_tp (.int (101 : Int32)) 137 (fun _ q => XS.bipush X63.here hx rfl (hb hby d15_135) q) ?_
  obtain ⟨cl64, Ar64, q64, S64, Nn64, H64, G64⟩ := (id V63')
  have hin64 : ¬ ((6 : Int32) < 0 ∨ cl64.slots.size ≤ ((6 : Int32)).toNatClampNeg) := inb_of S64 ⟨by decide, by decide⟩
  obtain ⟨T65, h65, X65, e65, W65, st65⟩ := stC X63 hx hZ e63 Ar64 (j := (6 : Int32)) hin64 (g := (mkF m 137 #[.val (.int (1 : Int32))] [(.int (101 : Int32)), (.int (6 : Int32)), (.ref b51), (.ref b51)])) rfl rfl (hb hby d15_137)
  have V65 := Arv.set Ar64 q64 S64 Nn64 H64 G64 (fits_nar_char _) W65 6 rfl (Nat.le_of_ble_eq_true rfl)
  have N65 := Fr.snoc X65 N63 ge51
  have K65 : Keep h0 h65 [] := K63.wr W65 (Or.inr sz51)
  have Z65 : n0 ≤ h65.size := Nat.le_trans Z63 (Nat.le_of_eq W65.size.symm)
  have V65' : Arv Z h65 b51 k51 .char (9 : Int32) [(.int (114 : Int32)), (.int (101 : Int32)), (.int (112 : Int32)), (.int (58 : Int32)), (.int (85 : Int32)), (.int (115 : Int32)), (.int (101 : Int32)), (.int (0 : Int32)), (.int (0 : Int32))] (.int (0 : Int32)) := V65
  refine own_cs [(.ref b51)] 138 st65 ?_
  refine own_tp (.ref b51) 139 (fun _ q => XS.dup X65.here hx rfl (hb hby d15_138) rfl rfl q) ?_
  refine own_tp (.int (7 : Int32)) 141 (fun _ q => XS.bipush X65.here hx rfl (hb hby d15_139) q) ?_
  refine own_tp (.int (114 : Int32)) 143 (fun _ q => XS.bipush X65.here hx rfl (hb hby d15_141) q) ?_
  obtain ⟨cl66, Ar66, q66, S66, Nn66, H66, G66⟩ := (id V65')
  have hin66 : ¬ ((7 : Int32) < 0 ∨ cl66.slots.size ≤ ((7 : Int32)).toNatClampNeg) := inb_of S66 ⟨by decide, by decide⟩
  obtain ⟨T67, h67, X67, e67, W67, st67⟩ := stC X65 hx hZ e65 Ar66 (j := (7 : Int32)) hin66 (g := (mkF m 143 #[.val (.int (1 : Int32))] [(.int (114 : Int32)), (.int (7 : Int32)), (.ref b51), (.ref b51)])) rfl rfl (hb hby d15_143)
  have V67 := Arv.set Ar66 q66 S66 Nn66 H66 G66 (fits_nar_char _) W67 7 rfl (Nat.le_of_ble_eq_true rfl)
  have N67 := Fr.snoc X67 N65 ge51
  have K67 : Keep h0 h67 [] := K65.wr W67 (Or.inr sz51)
  have Z67 : n0 ≤ h67.size := Nat.le_trans Z65 (Nat.le_of_eq W67.size.symm)
  have V67' : Arv Z h67 b51 k51 .char (9 : Int32) [(.int (114 : Int32)), (.int (101 : Int32)), (.int (112 : Int32)), (.int (58 : Int32)), (.int (85 : Int32)), (.int (115 : Int32)), (.int (101 : Int32)), (.int (114 : Int32)), (.int (0 : Int32))] (.int (0 : Int32)) := V67
  refine own_cs [(.ref b51)] 144 st67 ?_
  refine own_tp (.ref b51) 145 (fun _ q => XS.dup X67.here hx rfl (hb hby d15_144) rfl rfl q) ?_
  refine own_tp (.int (8 : Int32)) 147 (fun _ q => XS.bipush X67.here hx rfl (hb hby d15_145) q) ?_
  refine own_tp (.int (32 : Int32)) 149 (fun _ q => XS.bipush X67.here hx rfl (hb hby d15_147) q) ?_
  obtain ⟨cl68, Ar68, q68, S68, Nn68, H68, G68⟩ := (id V67')
  have hin68 : ¬ ((8 : Int32) < 0 ∨ cl68.slots.size ≤ ((8 : Int32)).toNatClampNeg) := inb_of S68 ⟨by decide, by decide⟩
  obtain ⟨T69, h69, X69, e69, W69, st69⟩ := stC X67 hx hZ e67 Ar68 (j := (8 : Int32)) hin68 (g := (mkF m 149 #[.val (.int (1 : Int32))] [(.int (32 : Int32)), (.int (8 : Int32)), (.ref b51), (.ref b51)])) rfl rfl (hb hby d15_149)
  have V69 := Arv.set Ar68 q68 S68 Nn68 H68 G68 (fits_nar_char _) W69 8 rfl (Nat.le_of_ble_eq_true rfl)
  have N69 := Fr.snoc X69 N67 ge51
  have K69 : Keep h0 h69 [] := K67.wr W69 (Or.inr sz51)
  have Z69 : n0 ≤ h69.size := Nat.le_trans Z67 (Nat.le_of_eq W69.size.symm)
  have V69' : Arv Z h69 b51 k51 .char (9 : Int32) [(.int (114 : Int32)), (.int (101 : Int32)), (.int (112 : Int32)), (.int (58 : Int32)), (.int (85 : Int32)), (.int (115 : Int32)), (.int (101 : Int32)), (.int (114 : Int32)), (.int (32 : Int32))] (.int (0 : Int32)) := V69
  refine own_cs [(.ref b51)] 150 st69 ?_
  exact own_retR X69 hx hrt (hb hby d15_150) rfl rfl hlk (by decide) (by decide) e69 (⟨b51, _, rfl, N69, K69, ge51, sz51, V69'⟩)

def Q16 (Z : State) (h0 : Heap) (n0 : Nat) (v : Option Value) (h : Heap) (L : List Loc) : Prop := ∃ (b : Addr) (k : ClassId), v = some (.ref b) ∧ Fr n0 L ∧ Keep h0 h [] ∧ n0 ≤ b ∧ h0.size ≤ b ∧ Arv Z h b k .char (7 : Int32) [(.int (101 : Int32)), (.int (112 : Int32)), (.int (58 : Int32)), (.int (85 : Int32)), (.int (115 : Int32)), (.int (101 : Int32)), (.int (114 : Int32))] (.int (0 : Int32))

theorem d16_0 : decode method_7_code 0 = .ok (.iload_n 1, 1) := by decide +kernel
theorem d16_1 : decode method_7_code 1 = .ok (.ifCond .eq 177, 3) := by decide +kernel
theorem d16_4 : decode method_7_code 4 = .ok (.iload_n 0, 1) := by decide +kernel
theorem d16_5 : decode method_7_code 5 = .ok (.ifCond .ne 80, 3) := by decide +kernel
theorem d16_85 : decode method_7_code 85 = .ok (.iload_n 0, 1) := by decide +kernel
theorem d16_86 : decode method_7_code 86 = .ok (.iconst 1, 1) := by decide +kernel
theorem d16_87 : decode method_7_code 87 = .ok (.if_icmp .ne 44, 3) := by decide +kernel
theorem d16_90 : decode method_7_code 90 = .ok (.bipush 7, 2) := by decide +kernel
theorem d16_92 : decode method_7_code 92 = .ok (.newarray .char, 2) := by decide +kernel
theorem d16_94 : decode method_7_code 94 = .ok (.dup, 1) := by decide +kernel
theorem d16_95 : decode method_7_code 95 = .ok (.iconst 0, 1) := by decide +kernel
theorem d16_96 : decode method_7_code 96 = .ok (.bipush 101, 2) := by decide +kernel
theorem d16_98 : decode method_7_code 98 = .ok (.castore, 1) := by decide +kernel
theorem d16_99 : decode method_7_code 99 = .ok (.dup, 1) := by decide +kernel
theorem d16_100 : decode method_7_code 100 = .ok (.iconst 1, 1) := by decide +kernel
theorem d16_101 : decode method_7_code 101 = .ok (.bipush 112, 2) := by decide +kernel
theorem d16_103 : decode method_7_code 103 = .ok (.castore, 1) := by decide +kernel
theorem d16_104 : decode method_7_code 104 = .ok (.dup, 1) := by decide +kernel
theorem d16_105 : decode method_7_code 105 = .ok (.iconst 2, 1) := by decide +kernel
theorem d16_106 : decode method_7_code 106 = .ok (.bipush 58, 2) := by decide +kernel
theorem d16_108 : decode method_7_code 108 = .ok (.castore, 1) := by decide +kernel
theorem d16_109 : decode method_7_code 109 = .ok (.dup, 1) := by decide +kernel
theorem d16_110 : decode method_7_code 110 = .ok (.iconst 3, 1) := by decide +kernel
theorem d16_111 : decode method_7_code 111 = .ok (.bipush 85, 2) := by decide +kernel
theorem d16_113 : decode method_7_code 113 = .ok (.castore, 1) := by decide +kernel
theorem d16_114 : decode method_7_code 114 = .ok (.dup, 1) := by decide +kernel
theorem d16_115 : decode method_7_code 115 = .ok (.iconst 4, 1) := by decide +kernel
theorem d16_116 : decode method_7_code 116 = .ok (.bipush 115, 2) := by decide +kernel
theorem d16_118 : decode method_7_code 118 = .ok (.castore, 1) := by decide +kernel
theorem d16_119 : decode method_7_code 119 = .ok (.dup, 1) := by decide +kernel
theorem d16_120 : decode method_7_code 120 = .ok (.iconst 5, 1) := by decide +kernel
theorem d16_121 : decode method_7_code 121 = .ok (.bipush 101, 2) := by decide +kernel
theorem d16_123 : decode method_7_code 123 = .ok (.castore, 1) := by decide +kernel
theorem d16_124 : decode method_7_code 124 = .ok (.dup, 1) := by decide +kernel
theorem d16_125 : decode method_7_code 125 = .ok (.bipush 6, 2) := by decide +kernel
theorem d16_127 : decode method_7_code 127 = .ok (.bipush 114, 2) := by decide +kernel
theorem d16_129 : decode method_7_code 129 = .ok (.castore, 1) := by decide +kernel
theorem d16_130 : decode method_7_code 130 = .ok (.areturn, 1) := by decide +kernel
theorem pn16 : plainName "com/example/leastwise/leastwise/core/AuthorizableTypeOfPinLaw" = true := by first | (simp [plainName, overriddenIn]; done) | decide +kernel
theorem ef16 (m : MethodId) (x0 : Int32) (x1 : Int32) : entryFrame m #[(.int x0), (.int x1)] 2 = mkF m 0 #[.val (.int x0), .val (.int x1)] [] := by first | (simp [entryFrame, mkF, argsToLocals, Value.category]; done) | rfl
set_option maxRecDepth 65536 in
set_option maxHeartbeats 40000000 in
theorem rm16 (l : Launch) (Z : State) (a0 : Array Value) (hw : ∀ d ∈ tables_1, d.before a0 Z = true) (ws : List Jvm.Cond)  (h0 : Heap) (n0 : Nat) (Z0 : n0 ≤ h0.size) :
    own_Met l (⟨"com/example/leastwise/leastwise/core/AuthorizableTypeOfPinLaw", "truncated", "(IZ)[C"⟩ : MethodName) method_7_code 2 (some (.array .char)) ws ({ frames := 0, cells := 1, slots := 7, locals := 0 } : Room) Z #[(.int (1 : Int32)), (.int (1 : Int32))] h0 (Q16 Z h0 n0) := by
  refine own_enter #[.val (.int (1 : Int32)), .val (.int (1 : Int32))] (plainFor_of_name pn16) (fun m => ef16 m (1 : Int32) (1 : Int32)) ?_
  intro p e s m below meth c s₁ hx hby hml hown hnm hZ hrt hlk X0 e0
  have N0 := Fr.nil n0
  refine own_tp (.int (1 : Int32)) 1 (fun _ q => XS.iloadN X0.here hx rfl (hb hby d16_0) rfl q) ?_
  refine own_d1 4 (fun _ q => XS.ifNo X0.here hx rfl (hb hby d16_1) rfl ((if0 _ _).trans (feq (by decide : ¬ ((1 : Int32) = (0 : Int32)))).1) q) ?_
  refine own_tp (.int (1 : Int32)) 5 (fun _ q => XS.iloadN X0.here hx rfl (hb hby d16_4) rfl q) ?_
  refine own_d1 85 (fun _ q => XS.ifYes X0.here hx rfl (pc0 := 5) (pc' := 85) rfl (hb hby d16_5) rfl ((if0 _ _).trans (feq (by decide : ¬ ((1 : Int32) = (0 : Int32)))).2) (by decide) (by decide) q) ?_
  refine own_tp (.int (1 : Int32)) 86 (fun _ q => XS.iloadN X0.here hx rfl (hb hby d16_85) rfl q) ?_
  refine own_tp (.int (1 : Int32)) 87 (fun _ q => XS.iconst X0.here hx rfl (hb hby d16_86) q) ?_
  refine own_d2 90 (fun _ q => XS.icmpNo X0.here hx rfl (hb hby d16_87) rfl (teq (by decide : (1 : Int32) = (1 : Int32))).2 q) ?_
  refine own_tp (.int (7 : Int32)) 92 (fun _ q => XS.bipush X0.here hx rfl (hb hby d16_90) q) ?_
  obtain ⟨T51, h51, k51, X51, e51, E51, A51, st51⟩ := newP X0 hx hZ (hw _ (List.mem_of_getElem? (i := 8) rfl)) e0 (g := (mkF m 92 #[.val (.int (1 : Int32)), .val (.int (1 : Int32))] [(.int (7 : Int32))])) rfl (hb hby d16_92) rfl (by decide) (cap := 7) (by decide) (by decide) (by decide) (by decide)
  obtain ⟨b51, g51⟩ : ∃ z, z = h0.size := ⟨_, rfl⟩
  rw [← g51] at A51 st51
  have V51 : Arv Z h51 b51 k51 .char (7 : Int32) [(.int (0 : Int32)), (.int (0 : Int32)), (.int (0 : Int32)), (.int (0 : Int32)), (.int (0 : Int32)), (.int (0 : Int32)), (.int (0 : Int32))] (.int (0 : Int32)) := (Arv.new A51 (by decide)).pad (pad_rep [] (.int (0 : Int32)) 7)
  have ge51 : n0 ≤ b51 := Nat.le_trans Z0 (Nat.le_of_eq g51.symm)
  have sz51 : h0.size ≤ b51 := Nat.le_trans (Keep.refl h0 []).1 (Nat.le_of_eq g51.symm)
  have K51 : Keep h0 h51 [] := (Keep.refl h0 []).ext E51
  have Z51 : n0 ≤ h51.size := Nat.le_trans Z0 E51.1
  refine own_t1 (.ref b51) 94 st51 ?_
  refine own_tp (.ref b51) 95 (fun _ q => XS.dup X51.here hx rfl (hb hby d16_94) rfl rfl q) ?_
  refine own_tp (.int (0 : Int32)) 96 (fun _ q => XS.iconst X51.here hx rfl (hb hby d16_95) q) ?_
  refine own_tp (.int (101 : Int32)) 98 (fun _ q => XS.bipush X51.here hx rfl (hb hby d16_96) q) ?_
  obtain ⟨cl52, Ar52, q52, S52, Nn52, H52, G52⟩ := (id V51)
  have hin52 : ¬ ((0 : Int32) < 0 ∨ cl52.slots.size ≤ ((0 : Int32)).toNatClampNeg) := inb_of S52 ⟨by decide, by decide⟩
  obtain ⟨T53, h53, X53, e53, W53, st53⟩ := stC X51 hx hZ e51 Ar52 (j := (0 : Int32)) hin52 (g := (mkF m 98 #[.val (.int (1 : Int32)), .val (.int (1 : Int32))] [(.int (101 : Int32)), (.int (0 : Int32)), (.ref b51), (.ref b51)])) rfl rfl (hb hby d16_98)
  have V53 := Arv.set Ar52 q52 S52 Nn52 H52 G52 (fits_nar_char _) W53 0 rfl (Nat.le_of_ble_eq_true rfl)
  have N53 := Fr.snoc X53 N0 ge51
  have K53 : Keep h0 h53 [] := K51.wr W53 (Or.inr sz51)
  have Z53 : n0 ≤ h53.size := Nat.le_trans Z51 (Nat.le_of_eq W53.size.symm)
  have V53' : Arv Z h53 b51 k51 .char (7 : Int32) [(.int (101 : Int32)), (.int (0 : Int32)), (.int (0 : Int32)), (.int (0 : Int32)), (.int (0 : Int32)), (.int (0 : Int32)), (.int (0 : Int32))] (.int (0 : Int32)) := V53
  refine own_cs [(.ref b51)] 99 st53 ?_
  refine own_tp (.ref b51) 100 (fun _ q => XS.dup X53.here hx rfl (hb hby d16_99) rfl rfl q) ?_
  refine own_tp (.int (1 : Int32)) 101 (fun _ q => XS.iconst X53.here hx rfl (hb hby d16_100) q) ?_
  refine own_tp (.int (112 : Int32)) 103 (fun _ q => XS.bipush X53.here hx rfl (hb hby d16_101) q) ?_
  obtain ⟨cl54, Ar54, q54, S54, Nn54, H54, G54⟩ := (id V53')
  have hin54 : ¬ ((1 : Int32) < 0 ∨ cl54.slots.size ≤ ((1 : Int32)).toNatClampNeg) := inb_of S54 ⟨by decide, by decide⟩
  obtain ⟨T55, h55, X55, e55, W55, st55⟩ := stC X53 hx hZ e53 Ar54 (j := (1 : Int32)) hin54 (g := (mkF m 103 #[.val (.int (1 : Int32)), .val (.int (1 : Int32))] [(.int (112 : Int32)), (.int (1 : Int32)), (.ref b51), (.ref b51)])) rfl rfl (hb hby d16_103)
  have V55 := Arv.set Ar54 q54 S54 Nn54 H54 G54 (fits_nar_char _) W55 1 rfl (Nat.le_of_ble_eq_true rfl)
  have N55 := Fr.snoc X55 N53 ge51
  have K55 : Keep h0 h55 [] := K53.wr W55 (Or.inr sz51)
  have Z55 : n0 ≤ h55.size := Nat.le_trans Z53 (Nat.le_of_eq W55.size.symm)
  have V55' : Arv Z h55 b51 k51 .char (7 : Int32) [(.int (101 : Int32)), (.int (112 : Int32)), (.int (0 : Int32)), (.int (0 : Int32)), (.int (0 : Int32)), (.int (0 : Int32)), (.int (0 : Int32))] (.int (0 : Int32)) := V55
  refine own_cs [(.ref b51)] 104 st55 ?_
  refine own_tp (.ref b51) 105 (fun _ q => XS.dup X55.here hx rfl (hb hby d16_104) rfl rfl q) ?_
  refine own_tp (.int (2 : Int32)) 106 (fun _ q => XS.iconst X55.here hx rfl (hb hby d16_105) q) ?_
  refine own_tp (.int (58 : Int32)) 108 (fun _ q => XS.bipush X55.here hx rfl (hb hby d16_106) q) ?_
  obtain ⟨cl56, Ar56, q56, S56, Nn56, H56, G56⟩ := (id V55')
  have hin56 : ¬ ((2 : Int32) < 0 ∨ cl56.slots.size ≤ ((2 : Int32)).toNatClampNeg) := inb_of S56 ⟨by decide, by decide⟩
  obtain ⟨T57, h57, X57, e57, W57, st57⟩ := stC X55 hx hZ e55 Ar56 (j := (2 : Int32)) hin56 (g := (mkF m 108 #[.val (.int (1 : Int32)), .val (.int (1 : Int32))] [(.int (58 : Int32)), (.int (2 : Int32)), (.ref b51), (.ref b51)])) rfl rfl (hb hby d16_108)
  have V57 := Arv.set Ar56 q56 S56 Nn56 H56 G56 (fits_nar_char _) W57 2 rfl (Nat.le_of_ble_eq_true rfl)
  have N57 := Fr.snoc X57 N55 ge51
  have K57 : Keep h0 h57 [] := K55.wr W57 (Or.inr sz51)
  have Z57 : n0 ≤ h57.size := Nat.le_trans Z55 (Nat.le_of_eq W57.size.symm)
  have V57' : Arv Z h57 b51 k51 .char (7 : Int32) [(.int (101 : Int32)), (.int (112 : Int32)), (.int (58 : Int32)), (.int (0 : Int32)), (.int (0 : Int32)), (.int (0 : Int32)), (.int (0 : Int32))] (.int (0 : Int32)) := V57
  refine own_cs [(.ref b51)] 109 st57 ?_
  refine own_tp (.ref b51) 110 (fun _ q => XS.dup X57.here hx rfl (hb hby d16_109) rfl rfl q) ?_
  refine own_tp (.int (3 : Int32)) 111 (fun _ q => XS.iconst X57.here hx rfl (hb hby d16_110) q) ?_
  refine own_tp (.int (85 : Int32)) 113 (fun _ q => XS.bipush X57.here hx rfl (hb hby d16_111) q) ?_
  obtain ⟨cl58, Ar58, q58, S58, Nn58, H58, G58⟩ := (id V57')
  have hin58 : ¬ ((3 : Int32) < 0 ∨ cl58.slots.size ≤ ((3 : Int32)).toNatClampNeg) := inb_of S58 ⟨by decide, by decide⟩
  obtain ⟨T59, h59, X59, e59, W59, st59⟩ := stC X57 hx hZ e57 Ar58 (j := (3 : Int32)) hin58 (g := (mkF m 113 #[.val (.int (1 : Int32)), .val (.int (1 : Int32))] [(.int (85 : Int32)), (.int (3 : Int32)), (.ref b51), (.ref b51)])) rfl rfl (hb hby d16_113)
  have V59 := Arv.set Ar58 q58 S58 Nn58 H58 G58 (fits_nar_char _) W59 3 rfl (Nat.le_of_ble_eq_true rfl)
  have N59 := Fr.snoc X59 N57 ge51
  have K59 : Keep h0 h59 [] := K57.wr W59 (Or.inr sz51)
  have Z59 : n0 ≤ h59.size := Nat.le_trans Z57 (Nat.le_of_eq W59.size.symm)
  have V59' : Arv Z h59 b51 k51 .char (7 : Int32) [(.int (101 : Int32)), (.int (112 : Int32)), (.int (58 : Int32)), (.int (85 : Int32)), (.int (0 : Int32)), (.int (0 : Int32)), (.int (0 : Int32))] (.int (0 : Int32)) := V59
  refine own_cs [(.ref b51)] 114 st59 ?_
  refine own_tp (.ref b51) 115 (fun _ q => XS.dup X59.here hx rfl (hb hby d16_114) rfl rfl q) ?_
  refine own_tp (.int (4 : Int32)) 116 (fun _ q => XS.iconst X59.here hx rfl (hb hby d16_115) q) ?_
  refine own_tp (.int (115 : Int32)) 118 (fun _ q => XS.bipush X59.here hx rfl (hb hby d16_116) q) ?_
  obtain ⟨cl60, Ar60, q60, S60, Nn60, H60, G60⟩ := (id V59')
  have hin60 : ¬ ((4 : Int32) < 0 ∨ cl60.slots.size ≤ ((4 : Int32)).toNatClampNeg) := inb_of S60 ⟨by decide, by decide⟩
  obtain ⟨T61, h61, X61, e61, W61, st61⟩ := stC X59 hx hZ e59 Ar60 (j := (4 : Int32)) hin60 (g := (mkF m 118 #[.val (.int (1 : Int32)), .val (.int (1 : Int32))] [(.int (115 : Int32)), (.int (4 : Int32)), (.ref b51), (.ref b51)])) rfl rfl (hb hby d16_118)
  have V61 := Arv.set Ar60 q60 S60 Nn60 H60 G60 (fits_nar_char _) W61 4 rfl (Nat.le_of_ble_eq_true rfl)
  have N61 := Fr.snoc X61 N59 ge51
  have K61 : Keep h0 h61 [] := K59.wr W61 (Or.inr sz51)
  have Z61 : n0 ≤ h61.size := Nat.le_trans Z59 (Nat.le_of_eq W61.size.symm)
  have V61' : Arv Z h61 b51 k51 .char (7 : Int32) [(.int (101 : Int32)), (.int (112 : Int32)), (.int (58 : Int32)), (.int (85 : Int32)), (.int (115 : Int32)), (.int (0 : Int32)), (.int (0 : Int32))] (.int (0 : Int32)) := V61
  refine own_cs [(.ref b51)] 119 st61 ?_
  refine own_tp (.ref b51) 120 (fun _ q => XS.dup X61.here hx rfl (hb hby d16_119) rfl rfl q) ?_
  refine own_tp (.int (5 : Int32)) 121 (fun _ q => XS.iconst X61.here hx rfl (hb hby d16_120) q) ?_
  refine own_tp (.int (101 : Int32)) 123 (fun _ q => XS.bipush X61.here hx rfl (hb hby d16_121) q) ?_
  obtain ⟨cl62, Ar62, q62, S62, Nn62, H62, G62⟩ := (id V61')
  have hin62 : ¬ ((5 : Int32) < 0 ∨ cl62.slots.size ≤ ((5 : Int32)).toNatClampNeg) := inb_of S62 ⟨by decide, by decide⟩
  obtain ⟨T63, h63, X63, e63, W63, st63⟩ := stC X61 hx hZ e61 Ar62 (j := (5 : Int32)) hin62 (g := (mkF m 123 #[.val (.int (1 : Int32)), .val (.int (1 : Int32))] [(.int (101 : Int32)), (.int (5 : Int32)), (.ref b51), (.ref b51)])) rfl rfl (hb hby d16_123)
  have V63 := Arv.set Ar62 q62 S62 Nn62 H62 G62 (fits_nar_char _) W63 5 rfl (Nat.le_of_ble_eq_true rfl)
  have N63 := Fr.snoc X63 N61 ge51
  have K63 : Keep h0 h63 [] := K61.wr W63 (Or.inr sz51)
  have Z63 : n0 ≤ h63.size := Nat.le_trans Z61 (Nat.le_of_eq W63.size.symm)
  have V63' : Arv Z h63 b51 k51 .char (7 : Int32) [(.int (101 : Int32)), (.int (112 : Int32)), (.int (58 : Int32)), (.int (85 : Int32)), (.int (115 : Int32)), (.int (101 : Int32)), (.int (0 : Int32))] (.int (0 : Int32)) := V63
  refine own_cs [(.ref b51)] 124 st63 ?_
  refine own_tp (.ref b51) 125 (fun _ q => XS.dup X63.here hx rfl (hb hby d16_124) rfl rfl q) ?_
  refine own_tp (.int (6 : Int32)) 127 (fun _ q => XS.bipush X63.here hx rfl (hb hby d16_125) q) ?_
  refine own_tp (.int (114 : Int32)) 129 (fun _ q => XS.bipush X63.here hx rfl (hb hby d16_127) q) ?_
  obtain ⟨cl64, Ar64, q64, S64, Nn64, H64, G64⟩ := (id V63')
  have hin64 : ¬ ((6 : Int32) < 0 ∨ cl64.slots.size ≤ ((6 : Int32)).toNatClampNeg) := inb_of S64 ⟨by decide, by decide⟩
  obtain ⟨T65, h65, X65, e65, W65, st65⟩ := stC X63 hx hZ e63 Ar64 (j := (6 : Int32)) hin64 (g := (mkF m 129 #[.val (.int (1 : Int32)), .val (.int (1 : Int32))] [(.int (114 : Int32)), (.int (6 : Int32)), (.ref b51), (.ref b51)])) rfl rfl (hb hby d16_129)
  have V65 := Arv.set Ar64 q64 S64 Nn64 H64 G64 (fits_nar_char _) W65 6 rfl (Nat.le_of_ble_eq_true rfl)
  have N65 := Fr.snoc X65 N63 ge51
  have K65 : Keep h0 h65 [] := K63.wr W65 (Or.inr sz51)
  have Z65 : n0 ≤ h65.size := Nat.le_trans Z63 (Nat.le_of_eq W65.size.symm)
  have V65' : Arv Z h65 b51 k51 .char (7 : Int32) [(.int (101 : Int32)), (.int (112 : Int32)), (.int (58 : Int32)), (.int (85 : Int32)), (.int (115 : Int32)), (.int (101 : Int32)), (.int (114 : Int32))] (.int (0 : Int32)) := V65
  refine own_cs [(.ref b51)] 130 st65 ?_
  exact own_retR X65 hx hrt (hb hby d16_130) rfl rfl hlk (by decide) (by decide) e65 (⟨b51, _, rfl, N65, K65, ge51, sz51, V65'⟩)

def Q17 (Z : State) (h0 : Heap) (n0 : Nat) (v : Option Value) (h : Heap) (L : List Loc) : Prop := ∃ (b : Addr) (k : ClassId), v = some (.ref b) ∧ Fr n0 L ∧ Keep h0 h [] ∧ n0 ≤ b ∧ h0.size ≤ b ∧ Arv Z h b k .char (7 : Int32) [(.int (114 : Int32)), (.int (101 : Int32)), (.int (112 : Int32)), (.int (58 : Int32)), (.int (85 : Int32)), (.int (115 : Int32)), (.int (101 : Int32))] (.int (0 : Int32))

theorem d17_0 : decode method_7_code 0 = .ok (.iload_n 1, 1) := by decide +kernel
theorem d17_1 : decode method_7_code 1 = .ok (.ifCond .eq 177, 3) := by decide +kernel
theorem d17_178 : decode method_7_code 178 = .ok (.iload_n 0, 1) := by decide +kernel
theorem d17_179 : decode method_7_code 179 = .ok (.ifCond .ne 80, 3) := by decide +kernel
theorem d17_259 : decode method_7_code 259 = .ok (.iload_n 0, 1) := by decide +kernel
theorem d17_260 : decode method_7_code 260 = .ok (.iconst 1, 1) := by decide +kernel
theorem d17_261 : decode method_7_code 261 = .ok (.if_icmp .ne 44, 3) := by decide +kernel
theorem d17_264 : decode method_7_code 264 = .ok (.bipush 7, 2) := by decide +kernel
theorem d17_266 : decode method_7_code 266 = .ok (.newarray .char, 2) := by decide +kernel
theorem d17_268 : decode method_7_code 268 = .ok (.dup, 1) := by decide +kernel
theorem d17_269 : decode method_7_code 269 = .ok (.iconst 0, 1) := by decide +kernel
theorem d17_270 : decode method_7_code 270 = .ok (.bipush 114, 2) := by decide +kernel
theorem d17_272 : decode method_7_code 272 = .ok (.castore, 1) := by decide +kernel
theorem d17_273 : decode method_7_code 273 = .ok (.dup, 1) := by decide +kernel
theorem d17_274 : decode method_7_code 274 = .ok (.iconst 1, 1) := by decide +kernel
theorem d17_275 : decode method_7_code 275 = .ok (.bipush 101, 2) := by decide +kernel
theorem d17_277 : decode method_7_code 277 = .ok (.castore, 1) := by decide +kernel
theorem d17_278 : decode method_7_code 278 = .ok (.dup, 1) := by decide +kernel
theorem d17_279 : decode method_7_code 279 = .ok (.iconst 2, 1) := by decide +kernel
theorem d17_280 : decode method_7_code 280 = .ok (.bipush 112, 2) := by decide +kernel
theorem d17_282 : decode method_7_code 282 = .ok (.castore, 1) := by decide +kernel
theorem d17_283 : decode method_7_code 283 = .ok (.dup, 1) := by decide +kernel
theorem d17_284 : decode method_7_code 284 = .ok (.iconst 3, 1) := by decide +kernel
theorem d17_285 : decode method_7_code 285 = .ok (.bipush 58, 2) := by decide +kernel
theorem d17_287 : decode method_7_code 287 = .ok (.castore, 1) := by decide +kernel
theorem d17_288 : decode method_7_code 288 = .ok (.dup, 1) := by decide +kernel
theorem d17_289 : decode method_7_code 289 = .ok (.iconst 4, 1) := by decide +kernel
theorem d17_290 : decode method_7_code 290 = .ok (.bipush 85, 2) := by decide +kernel
theorem d17_292 : decode method_7_code 292 = .ok (.castore, 1) := by decide +kernel
theorem d17_293 : decode method_7_code 293 = .ok (.dup, 1) := by decide +kernel
theorem d17_294 : decode method_7_code 294 = .ok (.iconst 5, 1) := by decide +kernel
theorem d17_295 : decode method_7_code 295 = .ok (.bipush 115, 2) := by decide +kernel
theorem d17_297 : decode method_7_code 297 = .ok (.castore, 1) := by decide +kernel
theorem d17_298 : decode method_7_code 298 = .ok (.dup, 1) := by decide +kernel
theorem d17_299 : decode method_7_code 299 = .ok (.bipush 6, 2) := by decide +kernel
theorem d17_301 : decode method_7_code 301 = .ok (.bipush 101, 2) := by decide +kernel
theorem d17_303 : decode method_7_code 303 = .ok (.castore, 1) := by decide +kernel
theorem d17_304 : decode method_7_code 304 = .ok (.areturn, 1) := by decide +kernel
theorem pn17 : plainName "com/example/leastwise/leastwise/core/AuthorizableTypeOfPinLaw" = true := by first | (simp [plainName, overriddenIn]; done) | decide +kernel
theorem ef17 (m : MethodId) (x0 : Int32) (x1 : Int32) : entryFrame m #[(.int x0), (.int x1)] 2 = mkF m 0 #[.val (.int x0), .val (.int x1)] [] := by first | (simp [entryFrame, mkF, argsToLocals, Value.category]; done) | rfl
set_option maxRecDepth 65536 in
set_option maxHeartbeats 40000000 in
theorem rm17 (l : Launch) (Z : State) (a0 : Array Value) (hw : ∀ d ∈ tables_1, d.before a0 Z = true) (ws : List Jvm.Cond)  (h0 : Heap) (n0 : Nat) (Z0 : n0 ≤ h0.size) :
    own_Met l (⟨"com/example/leastwise/leastwise/core/AuthorizableTypeOfPinLaw", "truncated", "(IZ)[C"⟩ : MethodName) method_7_code 2 (some (.array .char)) ws ({ frames := 0, cells := 1, slots := 7, locals := 0 } : Room) Z #[(.int (1 : Int32)), (.int (0 : Int32))] h0 (Q17 Z h0 n0) := by
  refine own_enter #[.val (.int (1 : Int32)), .val (.int (0 : Int32))] (plainFor_of_name pn17) (fun m => ef17 m (1 : Int32) (0 : Int32)) ?_
  intro p e s m below meth c s₁ hx hby hml hown hnm hZ hrt hlk X0 e0
  have N0 := Fr.nil n0
  refine own_tp (.int (0 : Int32)) 1 (fun _ q => XS.iloadN X0.here hx rfl (hb hby d17_0) rfl q) ?_
  refine own_d1 178 (fun _ q => XS.ifYes X0.here hx rfl (pc0 := 1) (pc' := 178) rfl (hb hby d17_1) rfl ((if0 _ _).trans (teq (by decide : (0 : Int32) = (0 : Int32))).1) (by decide) (by decide) q) ?_
  refine own_tp (.int (1 : Int32)) 179 (fun _ q => XS.iloadN X0.here hx rfl (hb hby d17_178) rfl q) ?_
  refine own_d1 259 (fun _ q => XS.ifYes X0.here hx rfl (pc0 := 179) (pc' := 259) rfl (hb hby d17_179) rfl ((if0 _ _).trans (feq (by decide : ¬ ((1 : Int32) = (0 : Int32)))).2) (by decide) (by decide) q) ?_
  refine own_tp (.int (1 : Int32)) 260 (fun _ q => XS.iloadN X0.here hx rfl (hb hby d17_259) rfl q) ?_
  refine own_tp (.int (1 : Int32)) 261 (fun _ q => XS.iconst X0.here hx rfl (hb hby d17_260) q) ?_
  refine own_d2 264 (fun _ q => XS.icmpNo X0.here hx rfl (hb hby d17_261) rfl (teq (by decide : (1 : Int32) = (1 : Int32))).2 q) ?_
  refine own_tp (.int (7 : Int32)) 266 (fun _ q => XS.bipush X0.here hx rfl (hb hby d17_264) q) ?_
  obtain ⟨T51, h51, k51, X51, e51, E51, A51, st51⟩ := newP X0 hx hZ (hw _ (List.mem_of_getElem? (i := 8) rfl)) e0 (g := (mkF m 266 #[.val (.int (1 : Int32)), .val (.int (0 : Int32))] [(.int (7 : Int32))])) rfl (hb hby d17_266) rfl (by decide) (cap := 7) (by decide) (by decide) (by decide) (by decide)
  obtain ⟨b51, g51⟩ : ∃ z, z = h0.size := ⟨_, rfl⟩
  rw [← g51] at A51 st51
  have V51 : Arv Z h51 b51 k51 .char (7 : Int32) [(.int (0 : Int32)), (.int (0 : Int32)), (.int (0 : Int32)), (.int (0 : Int32)), (.int (0 : Int32)), (.int (0 : Int32)), (.int (0 : Int32))] (.int (0 : Int32)) := (Arv.new A51 (by decide)).pad (pad_rep [] (.int (0 : Int32)) 7)
  have ge51 : n0 ≤ b51 := Nat.le_trans Z0 (Nat.le_of_eq g51.symm)
  have sz51 : h0.size ≤ b51 := Nat.le_trans (Keep.refl h0 []).1 (Nat.le_of_eq g51.symm)
  have K51 : Keep h0 h51 [] := (Keep.refl h0 []).ext E51
  have Z51 : n0 ≤ h51.size := Nat.le_trans Z0 E51.1
  refine own_t1 (.ref b51) 268 st51 ?_
  refine own_tp (.ref b51) 269 (fun _ q => XS.dup X51.here hx rfl (hb hby d17_268) rfl rfl q) ?_
  refine own_tp (.int (0 : Int32)) 270 (fun _ q => XS.iconst X51.here hx rfl (hb hby d17_269) q) ?_
  refine own_tp (.int (114 : Int32)) 272 (fun _ q => XS.bipush X51.here hx rfl (hb hby d17_270) q) ?_
  obtain ⟨cl52, Ar52, q52, S52, Nn52, H52, G52⟩ := (id V51)
  have hin52 : ¬ ((0 : Int32) < 0 ∨ cl52.slots.size ≤ ((0 : Int32)).toNatClampNeg) := inb_of S52 ⟨by decide, by decide⟩
  obtain ⟨T53, h53, X53, e53, W53, st53⟩ := stC X51 hx hZ e51 Ar52 (j := (0 : Int32)) hin52 (g := (mkF m 272 #[.val (.int (1 : Int32)), .val (.int (0 : Int32))] [(.int (114 : Int32)), (.int (0 : Int32)), (.ref b51), (.ref b51)])) rfl rfl (hb hby d17_272)
  have V53 := Arv.set Ar52 q52 S52 Nn52 H52 G52 (fits_nar_char _) W53 0 rfl (Nat.le_of_ble_eq_true rfl)
  have N53 := Fr.snoc X53 N0 ge51
  have K53 : Keep h0 h53 [] := K51.wr W53 (Or.inr sz51)
  have Z53 : n0 ≤ h53.size := Nat.le_trans Z51 (Nat.le_of_eq W53.size.symm)
  have V53' : Arv Z h53 b51 k51 .char (7 : Int32) [(.int (114 : Int32)), (.int (0 : Int32)), (.int (0 : Int32)), (.int (0 : Int32)), (.int (0 : Int32)), (.int (0 : Int32)), (.int (0 : Int32))] (.int (0 : Int32)) := V53
  refine own_cs [(.ref b51)] 273 st53 ?_
  refine own_tp (.ref b51) 274 (fun _ q => XS.dup X53.here hx rfl (hb hby d17_273) rfl rfl q) ?_
  refine own_tp (.int (1 : Int32)) 275 (fun _ q => XS.iconst X53.here hx rfl (hb hby d17_274) q) ?_
  refine own_tp (.int (101 : Int32)) 277 (fun _ q => XS.bipush X53.here hx rfl (hb hby d17_275) q) ?_
  obtain ⟨cl54, Ar54, q54, S54, Nn54, H54, G54⟩ := (id V53')
  have hin54 : ¬ ((1 : Int32) < 0 ∨ cl54.slots.size ≤ ((1 : Int32)).toNatClampNeg) := inb_of S54 ⟨by decide, by decide⟩
  obtain ⟨T55, h55, X55, e55, W55, st55⟩ := stC X53 hx hZ e53 Ar54 (j := (1 : Int32)) hin54 (g := (mkF m 277 #[.val (.int (1 : Int32)), .val (.int (0 : Int32))] [(.int (101 : Int32)), (.int (1 : Int32)), (.ref b51), (.ref b51)])) rfl rfl (hb hby d17_277)
  have V55 := Arv.set Ar54 q54 S54 Nn54 H54 G54 (fits_nar_char _) W55 1 rfl (Nat.le_of_ble_eq_true rfl)
  have N55 := Fr.snoc X55 N53 ge51
  have K55 : Keep h0 h55 [] := K53.wr W55 (Or.inr sz51)
  have Z55 : n0 ≤ h55.size := Nat.le_trans Z53 (Nat.le_of_eq W55.size.symm)
  have V55' : Arv Z h55 b51 k51 .char (7 : Int32) [(.int (114 : Int32)), (.int (101 : Int32)), (.int (0 : Int32)), (.int (0 : Int32)), (.int (0 : Int32)), (.int (0 : Int32)), (.int (0 : Int32))] (.int (0 : Int32)) := V55
  refine own_cs [(.ref b51)] 278 st55 ?_
  refine own_tp (.ref b51) 279 (fun _ q => XS.dup X55.here hx rfl (hb hby d17_278) rfl rfl q) ?_
  refine own_tp (.int (2 : Int32)) 280 (fun _ q => XS.iconst X55.here hx rfl (hb hby d17_279) q) ?_
  refine own_tp (.int (112 : Int32)) 282 (fun _ q => XS.bipush X55.here hx rfl (hb hby d17_280) q) ?_
  obtain ⟨cl56, Ar56, q56, S56, Nn56, H56, G56⟩ := (id V55')
  have hin56 : ¬ ((2 : Int32) < 0 ∨ cl56.slots.size ≤ ((2 : Int32)).toNatClampNeg) := inb_of S56 ⟨by decide, by decide⟩
  obtain ⟨T57, h57, X57, e57, W57, st57⟩ := stC X55 hx hZ e55 Ar56 (j := (2 : Int32)) hin56 (g := (mkF m 282 #[.val (.int (1 : Int32)), .val (.int (0 : Int32))] [(.int (112 : Int32)), (.int (2 : Int32)), (.ref b51), (.ref b51)])) rfl rfl (hb hby d17_282)
  have V57 := Arv.set Ar56 q56 S56 Nn56 H56 G56 (fits_nar_char _) W57 2 rfl (Nat.le_of_ble_eq_true rfl)
  have N57 := Fr.snoc X57 N55 ge51
  have K57 : Keep h0 h57 [] := K55.wr W57 (Or.inr sz51)
  have Z57 : n0 ≤ h57.size := Nat.le_trans Z55 (Nat.le_of_eq W57.size.symm)
  have V57' : Arv Z h57 b51 k51 .char (7 : Int32) [(.int (114 : Int32)), (.int (101 : Int32)), (.int (112 : Int32)), (.int (0 : Int32)), (.int (0 : Int32)), (.int (0 : Int32)), (.int (0 : Int32))] (.int (0 : Int32)) := V57
  refine own_cs [(.ref b51)] 283 st57 ?_
  refine own_tp (.ref b51) 284 (fun _ q => XS.dup X57.here hx rfl (hb hby d17_283) rfl rfl q) ?_
  refine own_tp (.int (3 : Int32)) 285 (fun _ q => XS.iconst X57.here hx rfl (hb hby d17_284) q) ?_
  refine own_tp (.int (58 : Int32)) 287 (fun _ q => XS.bipush X57.here hx rfl (hb hby d17_285) q) ?_
  obtain ⟨cl58, Ar58, q58, S58, Nn58, H58, G58⟩ := (id V57')
  have hin58 : ¬ ((3 : Int32) < 0 ∨ cl58.slots.size ≤ ((3 : Int32)).toNatClampNeg) := inb_of S58 ⟨by decide, by decide⟩
  obtain ⟨T59, h59, X59, e59, W59, st59⟩ := stC X57 hx hZ e57 Ar58 (j := (3 : Int32)) hin58 (g := (mkF m 287 #[.val (.int (1 : Int32)), .val (.int (0 : Int32))] [(.int (58 : Int32)), (.int (3 : Int32)), (.ref b51), (.ref b51)])) rfl rfl (hb hby d17_287)
  have V59 := Arv.set Ar58 q58 S58 Nn58 H58 G58 (fits_nar_char _) W59 3 rfl (Nat.le_of_ble_eq_true rfl)
  have N59 := Fr.snoc X59 N57 ge51
  have K59 : Keep h0 h59 [] := K57.wr W59 (Or.inr sz51)
  have Z59 : n0 ≤ h59.size := Nat.le_trans Z57 (Nat.le_of_eq W59.size.symm)
  have V59' : Arv Z h59 b51 k51 .char (7 : Int32) [(.int (114 : Int32)), (.int (101 : Int32)), (.int (112 : Int32)), (.int (58 : Int32)), (.int (0 : Int32)), (.int (0 : Int32)), (.int (0 : Int32))] (.int (0 : Int32)) := V59
  refine own_cs [(.ref b51)] 288 st59 ?_
  refine own_tp (.ref b51) 289 (fun _ q => XS.dup X59.here hx rfl (hb hby d17_288) rfl rfl q) ?_
  refine own_tp (.int (4 : Int32)) 290 (fun _ q => XS.iconst X59.here hx rfl (hb hby d17_289) q) ?_
  refine own_tp (.int (85 : Int32)) 292 (fun _ q => XS.bipush X59.here hx rfl (hb hby d17_290) q) ?_
  obtain ⟨cl60, Ar60, q60, S60, Nn60, H60, G60⟩ := (id V59')
  have hin60 : ¬ ((4 : Int32) < 0 ∨ cl60.slots.size ≤ ((4 : Int32)).toNatClampNeg) := inb_of S60 ⟨by decide, by decide⟩
  obtain ⟨T61, h61, X61, e61, W61, st61⟩ := stC X59 hx hZ e59 Ar60 (j := (4 : Int32)) hin60 (g := (mkF m 292 #[.val (.int (1 : Int32)), .val (.int (0 : Int32))] [(.int (85 : Int32)), (.int (4 : Int32)), (.ref b51), (.ref b51)])) rfl rfl (hb hby d17_292)
  have V61 := Arv.set Ar60 q60 S60 Nn60 H60 G60 (fits_nar_char _) W61 4 rfl (Nat.le_of_ble_eq_true rfl)
  have N61 := Fr.snoc X61 N59 ge51
  have K61 : Keep h0 h61 [] := K59.wr W61 (Or.inr sz51)
  have Z61 : n0 ≤ h61.size := Nat.le_trans Z59 (Nat.le_of_eq W61.size.symm)
  have V61' : Arv Z h61 b51 k51 .char (7 : Int32) [(.int (114 : Int32)), (.int (101 : Int32)), (.int (112 : Int32)), (.int (58 : Int32)), (.int (85 : Int32)), (.int (0 : Int32)), (.int (0 : Int32))] (.int (0 : Int32)) := V61
  refine own_cs [(.ref b51)] 293 st61 ?_
  refine own_tp (.ref b51) 294 (fun _ q => XS.dup X61.here hx rfl (hb hby d17_293) rfl rfl q) ?_
  refine own_tp (.int (5 : Int32)) 295 (fun _ q => XS.iconst X61.here hx rfl (hb hby d17_294) q) ?_
  refine own_tp (.int (115 : Int32)) 297 (fun _ q => XS.bipush X61.here hx rfl (hb hby d17_295) q) ?_
  obtain ⟨cl62, Ar62, q62, S62, Nn62, H62, G62⟩ := (id V61')
  have hin62 : ¬ ((5 : Int32) < 0 ∨ cl62.slots.size ≤ ((5 : Int32)).toNatClampNeg) := inb_of S62 ⟨by decide, by decide⟩
  obtain ⟨T63, h63, X63, e63, W63, st63⟩ := stC X61 hx hZ e61 Ar62 (j := (5 : Int32)) hin62 (g := (mkF m 297 #[.val (.int (1 : Int32)), .val (.int (0 : Int32))] [(.int (115 : Int32)), (.int (5 : Int32)), (.ref b51), (.ref b51)])) rfl rfl (hb hby d17_297)
  have V63 := Arv.set Ar62 q62 S62 Nn62 H62 G62 (fits_nar_char _) W63 5 rfl (Nat.le_of_ble_eq_true rfl)
  have N63 := Fr.snoc X63 N61 ge51
  have K63 : Keep h0 h63 [] := K61.wr W63 (Or.inr sz51)
  have Z63 : n0 ≤ h63.size := Nat.le_trans Z61 (Nat.le_of_eq W63.size.symm)
  have V63' : Arv Z h63 b51 k51 .char (7 : Int32) [(.int (114 : Int32)), (.int (101 : Int32)), (.int (112 : Int32)), (.int (58 : Int32)), (.int (85 : Int32)), (.int (115 : Int32)), (.int (0 : Int32))] (.int (0 : Int32)) := V63
  refine own_cs [(.ref b51)] 298 st63 ?_
  refine own_tp (.ref b51) 299 (fun _ q => XS.dup X63.here hx rfl (hb hby d17_298) rfl rfl q) ?_
  refine own_tp (.int (6 : Int32)) 301 (fun _ q => XS.bipush X63.here hx rfl (hb hby d17_299) q) ?_
  refine own_tp (.int (101 : Int32)) 303 (fun _ q => XS.bipush X63.here hx rfl (hb hby d17_301) q) ?_
  obtain ⟨cl64, Ar64, q64, S64, Nn64, H64, G64⟩ := (id V63')
  have hin64 : ¬ ((6 : Int32) < 0 ∨ cl64.slots.size ≤ ((6 : Int32)).toNatClampNeg) := inb_of S64 ⟨by decide, by decide⟩
  obtain ⟨T65, h65, X65, e65, W65, st65⟩ := stC X63 hx hZ e63 Ar64 (j := (6 : Int32)) hin64 (g := (mkF m 303 #[.val (.int (1 : Int32)), .val (.int (0 : Int32))] [(.int (101 : Int32)), (.int (6 : Int32)), (.ref b51), (.ref b51)])) rfl rfl (hb hby d17_303)
  have V65 := Arv.set Ar64 q64 S64 Nn64 H64 G64 (fits_nar_char _) W65 6 rfl (Nat.le_of_ble_eq_true rfl)
  have N65 := Fr.snoc X65 N63 ge51
  have K65 : Keep h0 h65 [] := K63.wr W65 (Or.inr sz51)
  have Z65 : n0 ≤ h65.size := Nat.le_trans Z63 (Nat.le_of_eq W65.size.symm)
  have V65' : Arv Z h65 b51 k51 .char (7 : Int32) [(.int (114 : Int32)), (.int (101 : Int32)), (.int (112 : Int32)), (.int (58 : Int32)), (.int (85 : Int32)), (.int (115 : Int32)), (.int (101 : Int32))] (.int (0 : Int32)) := V65
  refine own_cs [(.ref b51)] 304 st65 ?_
  exact own_retR X65 hx hrt (hb hby d17_304) rfl rfl hlk (by decide) (by decide) e65 (⟨b51, _, rfl, N65, K65, ge51, sz51, V65'⟩)

def Q18 (Z : State) (h0 : Heap) (n0 : Nat) (v : Option Value) (h : Heap) (L : List Loc) : Prop := ∃ (b : Addr) (k : ClassId), v = some (.ref b) ∧ Fr n0 L ∧ Keep h0 h [] ∧ n0 ≤ b ∧ h0.size ≤ b ∧ Arv Z h b k .char (9 : Int32) [(.int (114 : Int32)), (.int (101 : Int32)), (.int (112 : Int32)), (.int (58 : Int32)), (.int (71 : Int32)), (.int (114 : Int32)), (.int (111 : Int32)), (.int (117 : Int32)), (.int (112 : Int32))] (.int (0 : Int32))

theorem d18_0 : decode method_5_code 0 = .ok (.iload_n 0, 1) := by decide +kernel
theorem d18_1 : decode method_5_code 1 = .ok (.ifCond .ne 86, 3) := by decide +kernel
theorem d18_87 : decode method_5_code 87 = .ok (.iload_n 0, 1) := by decide +kernel
theorem d18_88 : decode method_5_code 88 = .ok (.iconst 1, 1) := by decide +kernel
theorem d18_89 : decode method_5_code 89 = .ok (.if_icmp .ne 50, 3) := by decide +kernel
theorem d18_139 : decode method_5_code 139 = .ok (.bipush 9, 2) := by decide +kernel
theorem d18_141 : decode method_5_code 141 = .ok (.newarray .char, 2) := by decide +kernel
theorem d18_143 : decode method_5_code 143 = .ok (.dup, 1) := by decide +kernel
theorem d18_144 : decode method_5_code 144 = .ok (.iconst 0, 1) := by decide +kernel
theorem d18_145 : decode method_5_code 145 = .ok (.bipush 114, 2) := by decide +kernel
theorem d18_147 : decode method_5_code 147 = .ok (.castore, 1) := by decide +kernel
theorem d18_148 : decode method_5_code 148 = .ok (.dup, 1) := by decide +kernel
theorem d18_149 : decode method_5_code 149 = .ok (.iconst 1, 1) := by decide +kernel
theorem d18_150 : decode method_5_code 150 = .ok (.bipush 101, 2) := by decide +kernel
theorem d18_152 : decode method_5_code 152 = .ok (.castore, 1) := by decide +kernel
theorem d18_153 : decode method_5_code 153 = .ok (.dup, 1) := by decide +kernel
theorem d18_154 : decode method_5_code 154 = .ok (.iconst 2, 1) := by decide +kernel
theorem d18_155 : decode method_5_code 155 = .ok (.bipush 112, 2) := by decide +kernel
theorem d18_157 : decode method_5_code 157 = .ok (.castore, 1) := by decide +kernel
theorem d18_158 : decode method_5_code 158 = .ok (.dup, 1) := by decide +kernel
theorem d18_159 : decode method_5_code 159 = .ok (.iconst 3, 1) := by decide +kernel
theorem d18_160 : decode method_5_code 160 = .ok (.bipush 58, 2) := by decide +kernel
theorem d18_162 : decode method_5_code 162 = .ok (.castore, 1) := by decide +kernel
theorem d18_163 : decode method_5_code 163 = .ok (.dup, 1) := by decide +kernel
theorem d18_164 : decode method_5_code 164 = .ok (.iconst 4, 1) := by decide +kernel
theorem d18_165 : decode method_5_code 165 = .ok (.bipush 71, 2) := by decide +kernel
theorem d18_167 : decode method_5_code 167 = .ok (.castore, 1) := by decide +kernel
theorem d18_168 : decode method_5_code 168 = .ok (.dup, 1) := by decide +kernel
theorem d18_169 : decode method_5_code 169 = .ok (.iconst 5, 1) := by decide +kernel
theorem d18_170 : decode method_5_code 170 = .ok (.bipush 114, 2) := by decide +kernel
theorem d18_172 : decode method_5_code 172 = .ok (.castore, 1) := by decide +kernel
theorem d18_173 : decode method_5_code 173 = .ok (.dup, 1) := by decide +kernel
theorem d18_174 : decode method_5_code 174 = .ok (.bipush 6, 2) := by decide +kernel
theorem d18_176 : decode method_5_code 176 = .ok (.bipush 111, 2) := by decide +kernel
theorem d18_178 : decode method_5_code 178 = .ok (.castore, 1) := by decide +kernel
theorem d18_179 : decode method_5_code 179 = .ok (.dup, 1) := by decide +kernel
theorem d18_180 : decode method_5_code 180 = .ok (.bipush 7, 2) := by decide +kernel
theorem d18_182 : decode method_5_code 182 = .ok (.bipush 117, 2) := by decide +kernel
theorem d18_184 : decode method_5_code 184 = .ok (.castore, 1) := by decide +kernel
theorem d18_185 : decode method_5_code 185 = .ok (.dup, 1) := by decide +kernel
theorem d18_186 : decode method_5_code 186 = .ok (.bipush 8, 2) := by decide +kernel
theorem d18_188 : decode method_5_code 188 = .ok (.bipush 112, 2) := by decide +kernel
theorem d18_190 : decode method_5_code 190 = .ok (.castore, 1) := by decide +kernel
theorem d18_191 : decode method_5_code 191 = .ok (.areturn, 1) := by decide +kernel
theorem pn18 : plainName "com/example/leastwise/leastwise/core/AuthorizableTypeOfPinLaw" = true := by first | (simp [plainName, overriddenIn]; done) | decide +kernel
theorem ef18 (m : MethodId) (x0 : Int32) : entryFrame m #[(.int x0)] 1 = mkF m 0 #[.val (.int x0)] [] := by first | (simp [entryFrame, mkF, argsToLocals, Value.category]; done) | rfl
set_option maxRecDepth 65536 in
set_option maxHeartbeats 40000000 in
theorem rm18 (l : Launch) (Z : State) (a0 : Array Value) (hw : ∀ d ∈ tables_1, d.before a0 Z = true) (ws : List Jvm.Cond)  (h0 : Heap) (n0 : Nat) (Z0 : n0 ≤ h0.size) :
    own_Met l (⟨"com/example/leastwise/leastwise/core/AuthorizableTypeOfPinLaw", "full", "(I)[C"⟩ : MethodName) method_5_code 1 (some (.array .char)) ws ({ frames := 0, cells := 1, slots := 9, locals := 0 } : Room) Z #[(.int (2 : Int32))] h0 (Q18 Z h0 n0) := by
  refine own_enter #[.val (.int (2 : Int32))] (plainFor_of_name pn18) (fun m => ef18 m (2 : Int32)) ?_
  intro p e s m below meth c s₁ hx hby hml hown hnm hZ hrt hlk X0 e0
  have N0 := Fr.nil n0
  refine own_tp (.int (2 : Int32)) 1 (fun _ q => XS.iloadN X0.here hx rfl (hb hby d18_0) rfl q) ?_
  refine own_d1 87 (fun _ q => XS.ifYes X0.here hx rfl (pc0 := 1) (pc' := 87) rfl (hb hby d18_1) rfl ((if0 _ _).trans (feq (by decide : ¬ ((2 : Int32) = (0 : Int32)))).2) (by decide) (by decide) q) ?_
  refine own_tp (.int (2 : Int32)) 88 (fun _ q => XS.iloadN X0.here hx rfl (hb hby d18_87) rfl q) ?_
  refine own_tp (.int (1 : Int32)) 89 (fun _ q => XS.iconst X0.here hx rfl (hb hby d18_88) q) ?_
  refine own_d2 139 (fun _ q => XS.icmpYes X0.here hx rfl (pc0 := 89) (pc' := 139) rfl (hb hby d18_89) rfl (feq (by decide : ¬ ((2 : Int32) = (1 : Int32)))).2 (by decide) (by decide) q) ?_
  refine own_tp (.int (9 : Int32)) 141 (fun _ q => XS.bipush X0.here hx rfl (hb hby d18_139) q) ?_
  obtain ⟨T51, h51, k51, X51, e51, E51, A51, st51⟩ := newP X0 hx hZ (hw _ (List.mem_of_getElem? (i := 8) rfl)) e0 (g := (mkF m 141 #[.val (.int (2 : Int32))] [(.int (9 : Int32))])) rfl (hb hby d18_141) rfl (by decide) (cap := 9) (by decide) (by decide) (by decide) (by decide)
  obtain ⟨b51, g51⟩ : ∃ z, z = h0.size := ⟨_, rfl⟩
  rw [← g51] at A51 st51
  have V51 : Arv Z h51 b51 k51 .char (9 : Int32) [(.int (0 : Int32)), (.int (0 : Int32)), (.int (0 : Int32)), (.int (0 : Int32)), (.int (0 : Int32)), (.int (0 : Int32)), (.int (0 : Int32)), (.int (0 : Int32)), (.int (0 : Int32))] (.int (0 : Int32)) := (Arv.new A51 (by decide)).pad (pad_rep [] (.int (0 : Int32)) 9)
  have ge51 : n0 ≤ b51 := Nat.le_trans Z0 (Nat.le_of_eq g51.symm)
  have sz51 : h0.size ≤ b51 := Nat.le_trans (Keep.refl h0 []).1 (Nat.le_of_eq g51.symm)
  have K51 : Keep h0 h51 [] := (Keep.refl h0 []).ext E51
  have Z51 : n0 ≤ h51.size := Nat.le_trans Z0 E51.1
  refine own_t1 (.ref b51) 143 st51 ?_
  refine own_tp (.ref b51) 144 (fun _ q => XS.dup X51.here hx rfl (hb hby d18_143) rfl rfl q) ?_
  refine own_tp (.int (0 : Int32)) 145 (fun _ q => XS.iconst X51.here hx rfl (hb hby d18_144) q) ?_
  refine own_tp (.int (114 : Int32)) 147 (fun _ q => XS.bipush X51.here hx rfl (hb hby d18_145) q) ?_
  obtain ⟨cl52, Ar52, q52, S52, Nn52, H52, G52⟩ := (id V51)
  have hin52 : ¬ ((0 : Int32) < 0 ∨ cl52.slots.size ≤ ((0 : Int32)).toNatClampNeg) := inb_of S52 ⟨by decide, by decide⟩
  obtain ⟨T53, h53, X53, e53, W53, st53⟩ := stC X51 hx hZ e51 Ar52 (j := (0 : Int32)) hin52 (g := (mkF m 147 #[.val (.int (2 : Int32))] [(.int (114 : Int32)), (.int (0 : Int32)), (.ref b51), (.ref b51)])) rfl rfl (hb hby d18_147)
  have V53 := Arv.set Ar52 q52 S52 Nn52 H52 G52 (fits_nar_char _) W53 0 rfl (Nat.le_of_ble_eq_true rfl)
  have N53 := Fr.snoc X53 N0 ge51
  have K53 : Keep h0 h53 [] := K51.wr W53 (Or.inr sz51)
  have Z53 : n0 ≤ h53.size := Nat.le_trans Z51 (Nat.le_of_eq W53.size.symm)
  have V53' : Arv Z h53 b51 k51 .char (9 : Int32) [(.int (114 : Int32)), (.int (0 : Int32)), (.int (0 : Int32)), (.int (0 : Int32)), (.int (0 : Int32)), (.int (0 : Int32)), (.int (0 : Int32)), (.int (0 : Int32)), (.int (0 : Int32))] (.int (0 : Int32)) := V53
  refine own_cs [(.ref b51)] 148 st53 ?_
  refine own_tp (.ref b51) 149 (fun _ q => XS.dup X53.here hx rfl (hb hby d18_148) rfl rfl q) ?_
  refine own_tp (.int (1 : Int32)) 150 (fun _ q => XS.iconst X53.here hx rfl (hb hby d18_149) q) ?_
  refine own_tp (.int (101 : Int32)) 152 (fun _ q => XS.bipush X53.here hx rfl (hb hby d18_150) q) ?_
  obtain ⟨cl54, Ar54, q54, S54, Nn54, H54, G54⟩ := (id V53')
  have hin54 : ¬ ((1 : Int32) < 0 ∨ cl54.slots.size ≤ ((1 : Int32)).toNatClampNeg) := inb_of S54 ⟨by decide, by decide⟩
  obtain ⟨T55, h55, X55, e55, W55, st55⟩ := stC X53 hx hZ e53 Ar54 (j := (1 : Int32)) hin54 (g := (mkF m 152 #[.val (.int (2 : Int32))] [(.int (101 : Int32)), (.int (1 : Int32)), (.ref b51), (.ref b51)])) rfl rfl (hb hby d18_152)
  have V55 := Arv.set Ar54 q54 S54 Nn54 H54 G54 (fits_nar_char _) W55 1 rfl (Nat.le_of_ble_eq_true rfl)
  have N55 := Fr.snoc X55 N53 ge51
  have K55 : Keep h0 h55 [] := K53.wr W55 (Or.inr sz51)
  have Z55 : n0 ≤ h55.size := Nat.le_trans Z53 (Nat.le_of_eq W55.size.symm)
  have V55' : Arv Z h55 b51 k51 .char (9 : Int32) [(.int (114 : Int32)), (.int (101 : Int32)), (.int (0 : Int32)), (.int (0 : Int32)), (.int (0 : Int32)), (.int (0 : Int32)), (.int (0 : Int32)), (.int (0 : Int32)), (.int (0 : Int32))] (.int (0 : Int32)) := V55
  refine own_cs [(.ref b51)] 153 st55 ?_
  refine own_tp (.ref b51) 154 (fun _ q => XS.dup X55.here hx rfl (hb hby d18_153) rfl rfl q) ?_
  refine own_tp (.int (2 : Int32)) 155 (fun _ q => XS.iconst X55.here hx rfl (hb hby d18_154) q) ?_
  refine own_tp (.int (112 : Int32)) 157 (fun _ q => XS.bipush X55.here hx rfl (hb hby d18_155) q) ?_
  obtain ⟨cl56, Ar56, q56, S56, Nn56, H56, G56⟩ := (id V55')
  have hin56 : ¬ ((2 : Int32) < 0 ∨ cl56.slots.size ≤ ((2 : Int32)).toNatClampNeg) := inb_of S56 ⟨by decide, by decide⟩
  obtain ⟨T57, h57, X57, e57, W57, st57⟩ := stC X55 hx hZ e55 Ar56 (j := (2 : Int32)) hin56 (g := (mkF m 157 #[.val (.int (2 : Int32))] [(.int (112 : Int32)), (.int (2 : Int32)), (.ref b51), (.ref b51)])) rfl rfl (hb hby d18_157)
  have V57 := Arv.set Ar56 q56 S56 Nn56 H56 G56 (fits_nar_char _) W57 2 rfl (Nat.le_of_ble_eq_true rfl)
  have N57 := Fr.snoc X57 N55 ge51
  have K57 : Keep h0 h57 [] := K55.wr W57 (Or.inr sz51)
  have Z57 : n0 ≤ h57.size := Nat.le_trans Z55 (Nat.le_of_eq W57.size.symm)
  have V57' : Arv Z h57 b51 k51 .char (9 : Int32) [(.int (114 : Int32)), (.int (101 : Int32)), (.int (112 : Int32)), (.int (0 : Int32)), (.int (0 : Int32)), (.int (0 : Int32)), (.int (0 : Int32)), (.int (0 : Int32)), (.int (0 : Int32))] (.int (0 : Int32)) := V57
  refine own_cs [(.ref b51)] 158 st57 ?_
  refine own_tp (.ref b51) 159 (fun _ q => XS.dup X57.here hx rfl (hb hby d18_158) rfl rfl q) ?_
  refine own_tp (.int (3 : Int32)) 160 (fun _ q => XS.iconst X57.here hx rfl (hb hby d18_159) q) ?_
  refine own_tp (.int (58 : Int32)) 162 (fun _ q => XS.bipush X57.here hx rfl (hb hby d18_160) q) ?_
  obtain ⟨cl58, Ar58, q58, S58, Nn58, H58, G58⟩ := (id V57')
  have hin58 : ¬ ((3 : Int32) < 0 ∨ cl58.slots.size ≤ ((3 : Int32)).toNatClampNeg) := inb_of S58 ⟨by decide, by decide⟩
  obtain ⟨T59, h59, X59, e59, W59, st59⟩ := stC X57 hx hZ e57 Ar58 (j := (3 : Int32)) hin58 (g := (mkF m 162 #[.val (.int (2 : Int32))] [(.int (58 : Int32)), (.int (3 : Int32)), (.ref b51), (.ref b51)])) rfl rfl (hb hby d18_162)
  have V59 := Arv.set Ar58 q58 S58 Nn58 H58 G58 (fits_nar_char _) W59 3 rfl (Nat.le_of_ble_eq_true rfl)
  have N59 := Fr.snoc X59 N57 ge51
  have K59 : Keep h0 h59 [] := K57.wr W59 (Or.inr sz51)
  have Z59 : n0 ≤ h59.size := Nat.le_trans Z57 (Nat.le_of_eq W59.size.symm)
  have V59' : Arv Z h59 b51 k51 .char (9 : Int32) [(.int (114 : Int32)), (.int (101 : Int32)), (.int (112 : Int32)), (.int (58 : Int32)), (.int (0 : Int32)), (.int (0 : Int32)), (.int (0 : Int32)), (.int (0 : Int32)), (.int (0 : Int32))] (.int (0 : Int32)) := V59
  refine own_cs [(.ref b51)] 163 st59 ?_
  refine own_tp (.ref b51) 164 (fun _ q => XS.dup X59.here hx rfl (hb hby d18_163) rfl rfl q) ?_
  refine own_tp (.int (4 : Int32)) 165 (fun _ q => XS.iconst X59.here hx rfl (hb hby d18_164) q) ?_
  refine own_tp (.int (71 : Int32)) 167 (fun _ q => XS.bipush X59.here hx rfl (hb hby d18_165) q) ?_
  obtain ⟨cl60, Ar60, q60, S60, Nn60, H60, G60⟩ := (id V59')
  have hin60 : ¬ ((4 : Int32) < 0 ∨ cl60.slots.size ≤ ((4 : Int32)).toNatClampNeg) := inb_of S60 ⟨by decide, by decide⟩
  obtain ⟨T61, h61, X61, e61, W61, st61⟩ := stC X59 hx hZ e59 Ar60 (j := (4 : Int32)) hin60 (g := (mkF m 167 #[.val (.int (2 : Int32))] [(.int (71 : Int32)), (.int (4 : Int32)), (.ref b51), (.ref b51)])) rfl rfl (hb hby d18_167)
  have V61 := Arv.set Ar60 q60 S60 Nn60 H60 G60 (fits_nar_char _) W61 4 rfl (Nat.le_of_ble_eq_true rfl)
  have N61 := Fr.snoc X61 N59 ge51
  have K61 : Keep h0 h61 [] := K59.wr W61 (Or.inr sz51)
  have Z61 : n0 ≤ h61.size := Nat.le_trans Z59 (Nat.le_of_eq W61.size.symm)
  have V61' : Arv Z h61 b51 k51 .char (9 : Int32) [(.int (114 : Int32)), (.int (101 : Int32)), (.int (112 : Int32)), (.int (58 : Int32)), (.int (71 : Int32)), (.int (0 : Int32)), (.int (0 : Int32)), (.int (0 : Int32)), (.int (0 : Int32))] (.int (0 : Int32)) := V61
  refine own_cs [(.ref b51)] 168 st61 ?_
  refine own_tp (.ref b51) 169 (fun _ q => XS.dup X61.here hx rfl (hb hby d18_168) rfl rfl q) ?_
  refine own_tp (.int (5 : Int32)) 170 (fun _ q => XS.iconst X61.here hx rfl (hb hby d18_169) q) ?_
  refine own_tp (.int (114 : Int32)) 172 (fun _ q => XS.bipush X61.here hx rfl (hb hby d18_170) q) ?_
  obtain ⟨cl62, Ar62, q62, S62, Nn62, H62, G62⟩ := (id V61')
  have hin62 : ¬ ((5 : Int32) < 0 ∨ cl62.slots.size ≤ ((5 : Int32)).toNatClampNeg) := inb_of S62 ⟨by decide, by decide⟩
  obtain ⟨T63, h63, X63, e63, W63, st63⟩ := stC X61 hx hZ e61 Ar62 (j := (5 : Int32)) hin62 (g := (mkF m 172 #[.val (.int (2 : Int32))] [(.int (114 : Int32)), (.int (5 : Int32)), (.ref b51), (.ref b51)])) rfl rfl (hb hby d18_172)
  have V63 := Arv.set Ar62 q62 S62 Nn62 H62 G62 (fits_nar_char _) W63 5 rfl (Nat.le_of_ble_eq_true rfl)
  have N63 := Fr.snoc X63 N61 ge51
  have K63 : Keep h0 h63 [] := K61.wr W63 (Or.inr sz51)
  have Z63 : n0 ≤ h63.size := Nat.le_trans Z61 (Nat.le_of_eq W63.size.symm)
  have V63' : Arv Z h63 b51 k51 .char (9 : Int32) [(.int (114 : Int32)), (.int (101 : Int32)), (.int (112 : Int32)), (.int (58 : Int32)), (.int (71 : Int32)), (.int (114 : Int32)), (.int (0 : Int32)), (.int (0 : Int32)), (.int (0 : Int32))] (.int (0 : Int32)) := V63
  refine own_cs [(.ref b51)] 173 st63 ?_
  refine own_tp (.ref b51) 174 (fun _ q => XS.dup X63.here hx rfl (hb hby d18_173) rfl rfl q) ?_
  refine own_tp (.int (6 : Int32)) 176 (fun _ q => XS.bipush X63.here hx rfl (hb hby d18_174) q) ?_
  refine own_tp (.int (111 : Int32)) 178 (fun _ q => XS.bipush X63.here hx rfl (hb hby d18_176) q) ?_
  obtain ⟨cl64, Ar64, q64, S64, Nn64, H64, G64⟩ := (id V63')
  have hin64 : ¬ ((6 : Int32) < 0 ∨ cl64.slots.size ≤ ((6 : Int32)).toNatClampNeg) := inb_of S64 ⟨by decide, by decide⟩
  obtain ⟨T65, h65, X65, e65, W65, st65⟩ := stC X63 hx hZ e63 Ar64 (j := (6 : Int32)) hin64 (g := (mkF m 178 #[.val (.int (2 : Int32))] [(.int (111 : Int32)), (.int (6 : Int32)), (.ref b51), (.ref b51)])) rfl rfl (hb hby d18_178)
  have V65 := Arv.set Ar64 q64 S64 Nn64 H64 G64 (fits_nar_char _) W65 6 rfl (Nat.le_of_ble_eq_true rfl)
  have N65 := Fr.snoc X65 N63 ge51
  have K65 : Keep h0 h65 [] := K63.wr W65 (Or.inr sz51)
  have Z65 : n0 ≤ h65.size := Nat.le_trans Z63 (Nat.le_of_eq W65.size.symm)
  have V65' : Arv Z h65 b51 k51 .char (9 : Int32) [(.int (114 : Int32)), (.int (101 : Int32)), (.int (112 : Int32)), (.int (58 : Int32)), (.int (71 : Int32)), (.int (114 : Int32)), (.int (111 : Int32)), (.int (0 : Int32)), (.int (0 : Int32))] (.int (0 : Int32)) := V65
  refine own_cs [(.ref b51)] 179 st65 ?_
  refine own_tp (.ref b51) 180 (fun _ q => XS.dup X65.here hx rfl (hb hby d18_179) rfl rfl q) ?_
  refine own_tp (.int (7 : Int32)) 182 (fun _ q => XS.bipush X65.here hx rfl (hb hby d18_180) q) ?_
  refine own_tp (.int (117 : Int32)) 184 (fun _ q => XS.bipush X65.here hx rfl (hb hby d18_182) q) ?_
  obtain ⟨cl66, Ar66, q66, S66, Nn66, H66, G66⟩ := (id V65')
  have hin66 : ¬ ((7 : Int32) < 0 ∨ cl66.slots.size ≤ ((7 : Int32)).toNatClampNeg) := inb_of S66 ⟨by decide, by decide⟩
  obtain ⟨T67, h67, X67, e67, W67, st67⟩ := stC X65 hx hZ e65 Ar66 (j := (7 : Int32)) hin66 (g := (mkF m 184 #[.val (.int (2 : Int32))] [(.int (117 : Int32)), (.int (7 : Int32)), (.ref b51), (.ref b51)])) rfl rfl (hb hby d18_184)
  have V67 := Arv.set Ar66 q66 S66 Nn66 H66 G66 (fits_nar_char _) W67 7 rfl (Nat.le_of_ble_eq_true rfl)
  have N67 := Fr.snoc X67 N65 ge51
  have K67 : Keep h0 h67 [] := K65.wr W67 (Or.inr sz51)
  have Z67 : n0 ≤ h67.size := Nat.le_trans Z65 (Nat.le_of_eq W67.size.symm)
  have V67' : Arv Z h67 b51 k51 .char (9 : Int32) [(.int (114 : Int32)), (.int (101 : Int32)), (.int (112 : Int32)), (.int (58 : Int32)), (.int (71 : Int32)), (.int (114 : Int32)), (.int (111 : Int32)), (.int (117 : Int32)), (.int (0 : Int32))] (.int (0 : Int32)) := V67
  refine own_cs [(.ref b51)] 185 st67 ?_
  refine own_tp (.ref b51) 186 (fun _ q => XS.dup X67.here hx rfl (hb hby d18_185) rfl rfl q) ?_
  refine own_tp (.int (8 : Int32)) 188 (fun _ q => XS.bipush X67.here hx rfl (hb hby d18_186) q) ?_
  refine own_tp (.int (112 : Int32)) 190 (fun _ q => XS.bipush X67.here hx rfl (hb hby d18_188) q) ?_
  obtain ⟨cl68, Ar68, q68, S68, Nn68, H68, G68⟩ := (id V67')
  have hin68 : ¬ ((8 : Int32) < 0 ∨ cl68.slots.size ≤ ((8 : Int32)).toNatClampNeg) := inb_of S68 ⟨by decide, by decide⟩
  obtain ⟨T69, h69, X69, e69, W69, st69⟩ := stC X67 hx hZ e67 Ar68 (j := (8 : Int32)) hin68 (g := (mkF m 190 #[.val (.int (2 : Int32))] [(.int (112 : Int32)), (.int (8 : Int32)), (.ref b51), (.ref b51)])) rfl rfl (hb hby d18_190)
  have V69 := Arv.set Ar68 q68 S68 Nn68 H68 G68 (fits_nar_char _) W69 8 rfl (Nat.le_of_ble_eq_true rfl)
  have N69 := Fr.snoc X69 N67 ge51
  have K69 : Keep h0 h69 [] := K67.wr W69 (Or.inr sz51)
  have Z69 : n0 ≤ h69.size := Nat.le_trans Z67 (Nat.le_of_eq W69.size.symm)
  have V69' : Arv Z h69 b51 k51 .char (9 : Int32) [(.int (114 : Int32)), (.int (101 : Int32)), (.int (112 : Int32)), (.int (58 : Int32)), (.int (71 : Int32)), (.int (114 : Int32)), (.int (111 : Int32)), (.int (117 : Int32)), (.int (112 : Int32))] (.int (0 : Int32)) := V69
  refine own_cs [(.ref b51)] 191 st69 ?_
  exact own_retR X69 hx hrt (hb hby d18_191) rfl rfl hlk (by decide) (by decide) e69 (⟨b51, _, rfl, N69, K69, ge51, sz51, V69'⟩)

def Q19 (Z : State) (h0 : Heap) (n0 : Nat) (v : Option Value) (h : Heap) (L : List Loc) : Prop := ∃ (b : Addr) (k : ClassId), v = some (.ref b) ∧ Fr n0 L ∧ Keep h0 h [] ∧ n0 ≤ b ∧ h0.size ≤ b ∧ Arv Z h b k .char (10 : Int32) [(.int (114 : Int32)), (.int (101 : Int32)), (.int (112 : Int32)), (.int (58 : Int32)), (.int (71 : Int32)), (.int (114 : Int32)), (.int (111 : Int32)), (.int (117 : Int32)), (.int (112 : Int32)), (.int (32 : Int32))] (.int (0 : Int32))

theorem d19_0 : decode method_6_code 0 = .ok (.iload_n 0, 1) := by decide +kernel
theorem d19_1 : decode method_6_code 1 = .ok (.ifCond .ne 92, 3) := by decide +kernel
theorem d19_93 : decode method_6_code 93 = .ok (.iload_n 0, 1) := by decide +kernel
theorem d19_94 : decode method_6_code 94 = .ok (.iconst 1, 1) := by decide +kernel
theorem d19_95 : decode method_6_code 95 = .ok (.if_icmp .ne 56, 3) := by decide +kernel
theorem d19_151 : decode method_6_code 151 = .ok (.bipush 10, 2) := by decide +kernel
theorem d19_153 : decode method_6_code 153 = .ok (.newarray .char, 2) := by decide +kernel
theorem d19_155 : decode method_6_code 155 = .ok (.dup, 1) := by decide +kernel
theorem d19_156 : decode method_6_code 156 = .ok (.iconst 0, 1) := by decide +kernel
theorem d19_157 : decode method_6_code 157 = .ok (.bipush 114, 2) := by decide +kernel
theorem d19_159 : decode method_6_code 159 = .ok (.castore, 1) := by decide +kernel
theorem d19_160 : decode method_6_code 160 = .ok (.dup, 1) := by decide +kernel
theorem d19_161 : decode method_6_code 161 = .ok (.iconst 1, 1) := by decide +kernel
theorem d19_162 : decode method_6_code 162 = .ok (.bipush 101, 2) := by decide +kernel
theorem d19_164 : decode method_6_code 164 = .ok (.castore, 1) := by decide +kernel
theorem d19_165 : decode method_6_code 165 = .ok (.dup, 1) := by decide +kernel
theorem d19_166 : decode method_6_code 166 = .ok (.iconst 2, 1) := by decide +kernel
theorem d19_167 : decode method_6_code 167 = .ok (.bipush 112, 2) := by decide +kernel
theorem d19_169 : decode method_6_code 169 = .ok (.castore, 1) := by decide +kernel
theorem d19_170 : decode method_6_code 170 = .ok (.dup, 1) := by decide +kernel
theorem d19_171 : decode method_6_code 171 = .ok (.iconst 3, 1) := by decide +kernel
theorem d19_172 : decode method_6_code 172 = .ok (.bipush 58, 2) := by decide +kernel
theorem d19_174 : decode method_6_code 174 = .ok (.castore, 1) := by decide +kernel
theorem d19_175 : decode method_6_code 175 = .ok (.dup, 1) := by decide +kernel
theorem d19_176 : decode method_6_code 176 = .ok (.iconst 4, 1) := by decide +kernel
theorem d19_177 : decode method_6_code 177 = .ok (.bipush 71, 2) := by decide +kernel
theorem d19_179 : decode method_6_code 179 = .ok (.castore, 1) := by decide +kernel
theorem d19_180 : decode method_6_code 180 = .ok (.dup, 1) := by decide +kernel
theorem d19_181 : decode method_6_code 181 = .ok (.iconst 5, 1) := by decide +kernel
theorem d19_182 : decode method_6_code 182 = .ok (.bipush 114, 2) := by decide +kernel
theorem d19_184 : decode method_6_code 184 = .ok (.castore, 1) := by decide +kernel
theorem d19_185 : decode method_6_code 185 = .ok (.dup, 1) := by decide +kernel
theorem d19_186 : decode method_6_code 186 = .ok (.bipush 6, 2) := by decide +kernel
theorem d19_188 : decode method_6_code 188 = .ok (.bipush 111, 2) := by decide +kernel
theorem d19_190 : decode method_6_code 190 = .ok (.castore, 1) := by decide +kernel
theorem d19_191 : decode method_6_code 191 = .ok (.dup, 1) := by decide +kernel
theorem d19_192 : decode method_6_code 192 = .ok (.bipush 7, 2) := by decide +kernel
theorem d19_194 : decode method_6_code 194 = .ok (.bipush 117, 2) := by decide +kernel
theorem d19_196 : decode method_6_code 196 = .ok (.castore, 1) := by decide +kernel
theorem d19_197 : decode method_6_code 197 = .ok (.dup, 1) := by decide +kernel
theorem d19_198 : decode method_6_code 198 = .ok (.bipush 8, 2) := by decide +kernel
theorem d19_200 : decode method_6_code 200 = .ok (.bipush 112, 2) := by decide +kernel
theorem d19_202 : decode method_6_code 202 = .ok (.castore, 1) := by decide +kernel
theorem d19_203 : decode method_6_code 203 = .ok (.dup, 1) := by decide +kernel
theorem d19_204 : decode method_6_code 204 = .ok (.bipush 9, 2) := by decide +kernel
theorem d19_206 : decode method_6_code 206 = .ok (.bipush 32, 2) := by decide +kernel
theorem d19_208 : decode method_6_code 208 = .ok (.castore, 1) := by decide +kernel
theorem d19_209 : decode method_6_code 209 = .ok (.areturn, 1) := by decide +kernel
theorem pn19 : plainName "com/example/leastwise/leastwise/core/AuthorizableTypeOfPinLaw" = true := by first | (simp [plainName, overriddenIn]; done) | decide +kernel
theorem ef19 (m : MethodId) (x0 : Int32) : entryFrame m #[(.int x0)] 1 = mkF m 0 #[.val (.int x0)] [] := by first | (simp [entryFrame, mkF, argsToLocals, Value.category]; done) | rfl
set_option maxRecDepth 65536 in
set_option maxHeartbeats 40000000 in
theorem rm19 (l : Launch) (Z : State) (a0 : Array Value) (hw : ∀ d ∈ tables_1, d.before a0 Z = true) (ws : List Jvm.Cond)  (h0 : Heap) (n0 : Nat) (Z0 : n0 ≤ h0.size) :
    own_Met l (⟨"com/example/leastwise/leastwise/core/AuthorizableTypeOfPinLaw", "extended", "(I)[C"⟩ : MethodName) method_6_code 1 (some (.array .char)) ws ({ frames := 0, cells := 1, slots := 10, locals := 0 } : Room) Z #[(.int (2 : Int32))] h0 (Q19 Z h0 n0) := by
  refine own_enter #[.val (.int (2 : Int32))] (plainFor_of_name pn19) (fun m => ef19 m (2 : Int32)) ?_
  intro p e s m below meth c s₁ hx hby hml hown hnm hZ hrt hlk X0 e0
  have N0 := Fr.nil n0
  refine own_tp (.int (2 : Int32)) 1 (fun _ q => XS.iloadN X0.here hx rfl (hb hby d19_0) rfl q) ?_
  refine own_d1 93 (fun _ q => XS.ifYes X0.here hx rfl (pc0 := 1) (pc' := 93) rfl (hb hby d19_1) rfl ((if0 _ _).trans (feq (by decide : ¬ ((2 : Int32) = (0 : Int32)))).2) (by decide) (by decide) q) ?_
  refine own_tp (.int (2 : Int32)) 94 (fun _ q => XS.iloadN X0.here hx rfl (hb hby d19_93) rfl q) ?_
  refine own_tp (.int (1 : Int32)) 95 (fun _ q => XS.iconst X0.here hx rfl (hb hby d19_94) q) ?_
  refine own_d2 151 (fun _ q => XS.icmpYes X0.here hx rfl (pc0 := 95) (pc' := 151) rfl (hb hby d19_95) rfl (feq (by decide : ¬ ((2 : Int32) = (1 : Int32)))).2 (by decide) (by decide) q) ?_
  refine own_tp (.int (10 : Int32)) 153 (fun _ q => XS.bipush X0.here hx rfl (hb hby d19_151) q) ?_
  obtain ⟨T51, h51, k51, X51, e51, E51, A51, st51⟩ := newP X0 hx hZ (hw _ (List.mem_of_getElem? (i := 8) rfl)) e0 (g := (mkF m 153 #[.val (.int (2 : Int32))] [(.int (10 : Int32))])) rfl (hb hby d19_153) rfl (by decide) (cap := 10) (by decide) (by decide) (by decide) (by decide)
  obtain ⟨b51, g51⟩ : ∃ z, z = h0.size := ⟨_, rfl⟩
  rw [← g51] at A51 st51
  have V51 : Arv Z h51 b51 k51 .char (10 : Int32) [(.int (0 : Int32)), (.int (0 : Int32)), (.int (0 : Int32)), (.int (0 : Int32)), (.int (0 : Int32)), (.int (0 : Int32)), (.int (0 : Int32)), (.int (0 : Int32)), (.int (0 : Int32)), (.int (0 : Int32))] (.int (0 : Int32)) := (Arv.new A51 (by decide)).pad (pad_rep [] (.int (0 : Int32)) 10)
  have ge51 : n0 ≤ b51 := Nat.le_trans Z0 (Nat.le_of_eq g51.symm)
  have sz51 : h0.size ≤ b51 := Nat.le_trans (Keep.refl h0 []).1 (Nat.le_of_eq g51.symm)
  have K51 : Keep h0 h51 [] := (Keep.refl h0 []).ext E51
  have Z51 : n0 ≤ h51.size := Nat.le_trans Z0 E51.1
  refine own_t1 (.ref b51) 155 st51 ?_
  refine own_tp (.ref b51) 156 (fun _ q => XS.dup X51.here hx rfl (hb hby d19_155) rfl rfl q) ?_
  refine own_tp (.int (0 : Int32)) 157 (fun _ q => XS.iconst X51.here hx rfl (hb hby d19_156) q) ?_
  refine own_tp (.int (114 : Int32)) 159 (fun _ q => XS.bipush X51.here hx rfl (hb hby d19_157) q) ?_
  obtain ⟨cl52, Ar52, q52, S52, Nn52, H52, G52⟩ := (id V51)
  have hin52 : ¬ ((0 : Int32) < 0 ∨ cl52.slots.size ≤ ((0 : Int32)).toNatClampNeg) := inb_of S52 ⟨by decide, by decide⟩
  obtain ⟨T53, h53, X53, e53, W53, st53⟩ := stC X51 hx hZ e51 Ar52 (j := (0 : Int32)) hin52 (g := (mkF m 159 #[.val (.int (2 : Int32))] [(.int (114 : Int32)), (.int (0 : Int32)), (.ref b51), (.ref b51)])) rfl rfl (hb hby d19_159)
  have V53 := Arv.set Ar52 q52 S52 Nn52 H52 G52 (fits_nar_char _) W53 0 rfl (Nat.le_of_ble_eq_true rfl)
  have N53 := Fr.snoc X53 N0 ge51
  have K53 : Keep h0 h53 [] := K51.wr W53 (Or.inr sz51)
  have Z53 : n0 ≤ h53.size := Nat.le_trans Z51 (Nat.le_of_eq W53.size.symm)
  have V53' : Arv Z h53 b51 k51 .char (10 : Int32) [(.int (114 : Int32)), (.int (0 : Int32)), (.int (0 : Int32)), (.int (0 : Int32)), (.int (0 : Int32)), (.int (0 : Int32)), (.int (0 : Int32)), (.int (0 : Int32)), (.int (0 : Int32)), (.int (0 : Int32))] (.int (0 : Int32)) := V53
  refine own_cs [(.ref b51)] 160 st53 ?_
  refine own_tp (.ref b51) 161 (fun _ q => XS.dup X53.here hx rfl (hb hby d19_160) rfl rfl q) ?_
  refine own_tp (.int (1 : Int32)) 162 (fun _ q => XS.iconst X53.here hx rfl (hb hby d19_161) q) ?_
  refine own_tp (.int (101 : Int32)) 164 (fun _ q => XS.bipush X53.here hx rfl (hb hby d19_162) q) ?_
  obtain ⟨cl54, Ar54, q54, S54, Nn54, H54, G54⟩ := (id V53')
  have hin54 : ¬ ((1 : Int32) < 0 ∨ cl54.slots.size ≤ ((1 : Int32)).toNatClampNeg) := inb_of S54 ⟨by decide, by decide⟩
  obtain ⟨T55, h55, X55, e55, W55, st55⟩ := stC X53 hx hZ e53 Ar54 (j := (1 : Int32)) hin54 (g := (mkF m 164 #[.val (.int (2 : Int32))] [(.int (101 : Int32)), (.int (1 : Int32)), (.ref b51), (.ref b51)])) rfl rfl (hb hby d19_164)
  have V55 := Arv.set Ar54 q54 S54 Nn54 H54 G54 (fits_nar_char _) W55 1 rfl (Nat.le_of_ble_eq_true rfl)
  have N55 := Fr.snoc X55 N53 ge51
  have K55 : Keep h0 h55 [] := K53.wr W55 (Or.inr sz51)
  have Z55 : n0 ≤ h55.size := Nat.le_trans Z53 (Nat.le_of_eq W55.size.symm)
  have V55' : Arv Z h55 b51 k51 .char (10 : Int32) [(.int (114 : Int32)), (.int (101 : Int32)), (.int (0 : Int32)), (.int (0 : Int32)), (.int (0 : Int32)), (.int (0 : Int32)), (.int (0 : Int32)), (.int (0 : Int32)), (.int (0 : Int32)), (.int (0 : Int32))] (.int (0 : Int32)) := V55
  refine own_cs [(.ref b51)] 165 st55 ?_
  refine own_tp (.ref b51) 166 (fun _ q => XS.dup X55.here hx rfl (hb hby d19_165) rfl rfl q) ?_
  refine own_tp (.int (2 : Int32)) 167 (fun _ q => XS.iconst X55.here hx rfl (hb hby d19_166) q) ?_
  refine own_tp (.int (112 : Int32)) 169 (fun _ q => XS.bipush X55.here hx rfl (hb hby d19_167) q) ?_
  obtain ⟨cl56, Ar56, q56, S56, Nn56, H56, G56⟩ := (id V55')
  have hin56 : ¬ ((2 : Int32) < 0 ∨ cl56.slots.size ≤ ((2 : Int32)).toNatClampNeg) := inb_of S56 ⟨by decide, by decide⟩
  obtain ⟨T57, h57, X57, e57, W57, st57⟩ := stC X55 hx hZ e55 Ar56 (j := (2 : Int32)) hin56 (g := (mkF m 169 #[.val (.int (2 : Int32))] [(.int (112 : Int32)), (.int (2 : Int32)), (.ref b51), (.ref b51)])) rfl rfl (hb hby d19_169)
  have V57 := Arv.set Ar56 q56 S56 Nn56 H56 G56 (fits_nar_char _) W57 2 rfl (Nat.le_of_ble_eq_true rfl)
  have N57 := Fr.snoc X57 N55 ge51
  have K57 : Keep h0 h57 [] := K55.wr W57 (Or.inr sz51)
  have Z57 : n0 ≤ h57.size := Nat.le_trans Z55 (Nat.le_of_eq W57.size.symm)
  have V57' : Arv Z h57 b51 k51 .char (10 : Int32) [(.int (114 : Int32)), (.int (101 : Int32)), (.int (112 : Int32)), (.int (0 : Int32)), (.int (0 : Int32)), (.int (0 : Int32)), (.int (0 : Int32)), (.int (0 : Int32)), (.int (0 : Int32)), (.int (0 : Int32))] (.int (0 : Int32)) := V57
  refine own_cs [(.ref b51)] 170 st57 ?_
  refine own_tp (.ref b51) 171 (fun _ q => XS.dup X57.here hx rfl (hb hby d19_170) rfl rfl q) ?_
  refine own_tp (.int (3 : Int32)) 172 (fun _ q => XS.iconst X57.here hx rfl (hb hby d19_171) q) ?_
  refine own_tp (.int (58 : Int32)) 174 (fun _ q => XS.bipush X57.here hx rfl (hb hby d19_172) q) ?_
  obtain ⟨cl58, Ar58, q58, S58, Nn58, H58, G58⟩ := (id V57')
  have hin58 : ¬ ((3 : Int32) < 0 ∨ cl58.slots.size ≤ ((3 : Int32)).toNatClampNeg) := inb_of S58 ⟨by decide, by decide⟩
  obtain ⟨T59, h59, X59, e59, W59, st59⟩ := stC X57 hx hZ e57 Ar58 (j := (3 : Int32)) hin58 (g := (mkF m 174 #[.val (.int (2 : Int32))] [(.int (58 : Int32)), (.int (3 : Int32)), (.ref b51), (.ref b51)])) rfl rfl (hb hby d19_174)
  have V59 := Arv.set Ar58 q58 S58 Nn58 H58 G58 (fits_nar_char _) W59 3 rfl (Nat.le_of_ble_eq_true rfl)
  have N59 := Fr.snoc X59 N57 ge51
  have K59 : Keep h0 h59 [] := K57.wr W59 (Or.inr sz51)
  have Z59 : n0 ≤ h59.size := Nat.le_trans Z57 (Nat.le_of_eq W59.size.symm)
  have V59' : Arv Z h59 b51 k51 .char (10 : Int32) [(.int (114 : Int32)), (.int (101 : Int32)), (.int (112 : Int32)), (.int (58 : Int32)), (.int (0 : Int32)), (.int (0 : Int32)), (.int (0 : Int32)), (.int (0 : Int32)), (.int (0 : Int32)), (.int (0 : Int32))] (.int (0 : Int32)) := V59
  refine own_cs [(.ref b51)] 175 st59 ?_
  refine own_tp (.ref b51) 176 (fun _ q => XS.dup X59.here hx rfl (hb hby d19_175) rfl rfl q) ?_
  refine own_tp (.int (4 : Int32)) 177 (fun _ q => XS.iconst X59.here hx rfl (hb hby d19_176) q) ?_
  refine own_tp (.int (71 : Int32)) 179 (fun _ q => XS.bipush X59.here hx rfl (hb hby d19_177) q) ?_
  obtain ⟨cl60, Ar60, q60, S60, Nn60, H60, G60⟩ := (id V59')
  have hin60 : ¬ ((4 : Int32) < 0 ∨ cl60.slots.size ≤ ((4 : Int32)).toNatClampNeg) := inb_of S60 ⟨by decide, by decide⟩
  obtain ⟨T61, h61, X61, e61, W61, st61⟩ := stC X59 hx hZ e59 Ar60 (j := (4 : Int32)) hin60 (g := (mkF m 179 #[.val (.int (2 : Int32))] [(.int (71 : Int32)), (.int (4 : Int32)), (.ref b51), (.ref b51)])) rfl rfl (hb hby d19_179)
  have V61 := Arv.set Ar60 q60 S60 Nn60 H60 G60 (fits_nar_char _) W61 4 rfl (Nat.le_of_ble_eq_true rfl)
  have N61 := Fr.snoc X61 N59 ge51
  have K61 : Keep h0 h61 [] := K59.wr W61 (Or.inr sz51)
  have Z61 : n0 ≤ h61.size := Nat.le_trans Z59 (Nat.le_of_eq W61.size.symm)
  have V61' : Arv Z h61 b51 k51 .char (10 : Int32) [(.int (114 : Int32)), (.int (101 : Int32)), (.int (112 : Int32)), (.int (58 : Int32)), (.int (71 : Int32)), (.int (0 : Int32)), (.int (0 : Int32)), (.int (0 : Int32)), (.int (0 : Int32)), (.int (0 : Int32))] (.int (0 : Int32)) := V61
  refine own_cs [(.ref b51)] 180 st61 ?_
  refine own_tp (.ref b51) 181 (fun _ q => XS.dup X61.here hx rfl (hb hby d19_180) rfl rfl q) ?_
  refine own_tp (.int (5 : Int32)) 182 (fun _ q => XS.iconst X61.here hx rfl (hb hby d19_181) q) ?_
  refine own_tp (.int (114 : Int32)) 184 (fun _ q => XS.bipush X61.here hx rfl (hb hby d19_182) q) ?_
  obtain ⟨cl62, Ar62, q62, S62, Nn62, H62, G62⟩ := (id V61')
  have hin62 : ¬ ((5 : Int32) < 0 ∨ cl62.slots.size ≤ ((5 : Int32)).toNatClampNeg) := inb_of S62 ⟨by decide, by decide⟩
  obtain ⟨T63, h63, X63, e63, W63, st63⟩ := stC X61 hx hZ e61 Ar62 (j := (5 : Int32)) hin62 (g := (mkF m 184 #[.val (.int (2 : Int32))] [(.int (114 : Int32)), (.int (5 : Int32)), (.ref b51), (.ref b51)])) rfl rfl (hb hby d19_184)
  have V63 := Arv.set Ar62 q62 S62 Nn62 H62 G62 (fits_nar_char _) W63 5 rfl (Nat.le_of_ble_eq_true rfl)
  have N63 := Fr.snoc X63 N61 ge51
  have K63 : Keep h0 h63 [] := K61.wr W63 (Or.inr sz51)
  have Z63 : n0 ≤ h63.size := Nat.le_trans Z61 (Nat.le_of_eq W63.size.symm)
  have V63' : Arv Z h63 b51 k51 .char (10 : Int32) [(.int (114 : Int32)), (.int (101 : Int32)), (.int (112 : Int32)), (.int (58 : Int32)), (.int (71 : Int32)), (.int (114 : Int32)), (.int (0 : Int32)), (.int (0 : Int32)), (.int (0 : Int32)), (.int (0 : Int32))] (.int (0 : Int32)) := V63
  refine own_cs [(.ref b51)] 185 st63 ?_
  refine own_tp (.ref b51) 186 (fun _ q => XS.dup X63.here hx rfl (hb hby d19_185) rfl rfl q) ?_
  refine own_tp (.int (6 : Int32)) 188 (fun _ q => XS.bipush X63.here hx rfl (hb hby d19_186) q) ?_
  refine own_tp (.int (111 : Int32)) 190 (fun _ q => XS.bipush X63.here hx rfl (hb hby d19_188) q) ?_
  obtain ⟨cl64, Ar64, q64, S64, Nn64, H64, G64⟩ := (id V63')
  have hin64 : ¬ ((6 : Int32) < 0 ∨ cl64.slots.size ≤ ((6 : Int32)).toNatClampNeg) := inb_of S64 ⟨by decide, by decide⟩
  obtain ⟨T65, h65, X65, e65, W65, st65⟩ := stC X63 hx hZ e63 Ar64 (j := (6 : Int32)) hin64 (g := (mkF m 190 #[.val (.int (2 : Int32))] [(.int (111 : Int32)), (.int (6 : Int32)), (.ref b51), (.ref b51)])) rfl rfl (hb hby d19_190)
  have V65 := Arv.set Ar64 q64 S64 Nn64 H64 G64 (fits_nar_char _) W65 6 rfl (Nat.le_of_ble_eq_true rfl)
  have N65 := Fr.snoc X65 N63 ge51
  have K65 : Keep h0 h65 [] := K63.wr W65 (Or.inr sz51)
  have Z65 : n0 ≤ h65.size := Nat.le_trans Z63 (Nat.le_of_eq W65.size.symm)
  have V65' : Arv Z h65 b51 k51 .char (10 : Int32) [(.int (114 : Int32)), (.int (101 : Int32)), (.int (112 : Int32)), (.int (58 : Int32)), (.int (71 : Int32)), (.int (114 : Int32)), (.int (111 : Int32)), (.int (0 : Int32)), (.int (0 : Int32)), (.int (0 : Int32))] (.int (0 : Int32)) := V65
  refine own_cs [(.ref b51)] 191 st65 ?_
  refine own_tp (.ref b51) 192 (fun _ q => XS.dup X65.here hx rfl (hb hby d19_191) rfl rfl q) ?_
  refine own_tp (.int (7 : Int32)) 194 (fun _ q => XS.bipush X65.here hx rfl (hb hby d19_192) q) ?_
  refine own_tp (.int (117 : Int32)) 196 (fun _ q => XS.bipush X65.here hx rfl (hb hby d19_194) q) ?_
  obtain ⟨cl66, Ar66, q66, S66, Nn66, H66, G66⟩ := (id V65')
  have hin66 : ¬ ((7 : Int32) < 0 ∨ cl66.slots.size ≤ ((7 : Int32)).toNatClampNeg) := inb_of S66 ⟨by decide, by decide⟩
  obtain ⟨T67, h67, X67, e67, W67, st67⟩ := stC X65 hx hZ e65 Ar66 (j := (7 : Int32)) hin66 (g := (mkF m 196 #[.val (.int (2 : Int32))] [(.int (117 : Int32)), (.int (7 : Int32)), (.ref b51), (.ref b51)])) rfl rfl (hb hby d19_196)
  have V67 := Arv.set Ar66 q66 S66 Nn66 H66 G66 (fits_nar_char _) W67 7 rfl (Nat.le_of_ble_eq_true rfl)
  have N67 := Fr.snoc X67 N65 ge51
  have K67 : Keep h0 h67 [] := K65.wr W67 (Or.inr sz51)
  have Z67 : n0 ≤ h67.size := Nat.le_trans Z65 (Nat.le_of_eq W67.size.symm)
  have V67' : Arv Z h67 b51 k51 .char (10 : Int32) [(.int (114 : Int32)), (.int (101 : Int32)), (.int (112 : Int32)), (.int (58 : Int32)), (.int (71 : Int32)), (.int (114 : Int32)), (.int (111 : Int32)), (.int (117 : Int32)), (.int (0 : Int32)), (.int (0 : Int32))] (.int (0 : Int32)) := V67
  refine own_cs [(.ref b51)] 197 st67 ?_
  refine own_tp (.ref b51) 198 (fun _ q => XS.dup X67.here hx rfl (hb hby d19_197) rfl rfl q) ?_
  refine own_tp (.int (8 : Int32)) 200 (fun _ q => XS.bipush X67.here hx rfl (hb hby d19_198) q) ?_
  refine own_tp (.int (112 : Int32)) 202 (fun _ q => XS.bipush X67.here hx rfl (hb hby d19_200) q) ?_
  obtain ⟨cl68, Ar68, q68, S68, Nn68, H68, G68⟩ := (id V67')
  have hin68 : ¬ ((8 : Int32) < 0 ∨ cl68.slots.size ≤ ((8 : Int32)).toNatClampNeg) := inb_of S68 ⟨by decide, by decide⟩
  obtain ⟨T69, h69, X69, e69, W69, st69⟩ := stC X67 hx hZ e67 Ar68 (j := (8 : Int32)) hin68 (g := (mkF m 202 #[.val (.int (2 : Int32))] [(.int (112 : Int32)), (.int (8 : Int32)), (.ref b51), (.ref b51)])) rfl rfl (hb hby d19_202)
  have V69 := Arv.set Ar68 q68 S68 Nn68 H68 G68 (fits_nar_char _) W69 8 rfl (Nat.le_of_ble_eq_true rfl)
  have N69 := Fr.snoc X69 N67 ge51
  have K69 : Keep h0 h69 [] := K67.wr W69 (Or.inr sz51)
  have Z69 : n0 ≤ h69.size := Nat.le_trans Z67 (Nat.le_of_eq W69.size.symm)
  have V69' : Arv Z h69 b51 k51 .char (10 : Int32) [(.int (114 : Int32)), (.int (101 : Int32)), (.int (112 : Int32)), (.int (58 : Int32)), (.int (71 : Int32)), (.int (114 : Int32)), (.int (111 : Int32)), (.int (117 : Int32)), (.int (112 : Int32)), (.int (0 : Int32))] (.int (0 : Int32)) := V69
  refine own_cs [(.ref b51)] 203 st69 ?_
  refine own_tp (.ref b51) 204 (fun _ q => XS.dup X69.here hx rfl (hb hby d19_203) rfl rfl q) ?_
  refine own_tp (.int (9 : Int32)) 206 (fun _ q => XS.bipush X69.here hx rfl (hb hby d19_204) q) ?_
  refine own_tp (.int (32 : Int32)) 208 (fun _ q => XS.bipush X69.here hx rfl (hb hby d19_206) q) ?_
  obtain ⟨cl70, Ar70, q70, S70, Nn70, H70, G70⟩ := (id V69')
  have hin70 : ¬ ((9 : Int32) < 0 ∨ cl70.slots.size ≤ ((9 : Int32)).toNatClampNeg) := inb_of S70 ⟨by decide, by decide⟩
  obtain ⟨T71, h71, X71, e71, W71, st71⟩ := stC X69 hx hZ e69 Ar70 (j := (9 : Int32)) hin70 (g := (mkF m 208 #[.val (.int (2 : Int32))] [(.int (32 : Int32)), (.int (9 : Int32)), (.ref b51), (.ref b51)])) rfl rfl (hb hby d19_208)
  have V71 := Arv.set Ar70 q70 S70 Nn70 H70 G70 (fits_nar_char _) W71 9 rfl (Nat.le_of_ble_eq_true rfl)
  have N71 := Fr.snoc X71 N69 ge51
  have K71 : Keep h0 h71 [] := K69.wr W71 (Or.inr sz51)
  have Z71 : n0 ≤ h71.size := Nat.le_trans Z69 (Nat.le_of_eq W71.size.symm)
  have V71' : Arv Z h71 b51 k51 .char (10 : Int32) [(.int (114 : Int32)), (.int (101 : Int32)), (.int (112 : Int32)), (.int (58 : Int32)), (.int (71 : Int32)), (.int (114 : Int32)), (.int (111 : Int32)), (.int (117 : Int32)), (.int (112 : Int32)), (.int (32 : Int32))] (.int (0 : Int32)) := V71
  refine own_cs [(.ref b51)] 209 st71 ?_
  exact own_retR X71 hx hrt (hb hby d19_209) rfl rfl hlk (by decide) (by decide) e71 (⟨b51, _, rfl, N71, K71, ge51, sz51, V71'⟩)

def Q20 (Z : State) (h0 : Heap) (n0 : Nat) (v : Option Value) (h : Heap) (L : List Loc) : Prop := ∃ (b : Addr) (k : ClassId), v = some (.ref b) ∧ Fr n0 L ∧ Keep h0 h [] ∧ n0 ≤ b ∧ h0.size ≤ b ∧ Arv Z h b k .char (8 : Int32) [(.int (101 : Int32)), (.int (112 : Int32)), (.int (58 : Int32)), (.int (71 : Int32)), (.int (114 : Int32)), (.int (111 : Int32)), (.int (117 : Int32)), (.int (112 : Int32))] (.int (0 : Int32))

theorem d20_0 : decode method_7_code 0 = .ok (.iload_n 1, 1) := by decide +kernel
theorem d20_1 : decode method_7_code 1 = .ok (.ifCond .eq 177, 3) := by decide +kernel
theorem d20_4 : decode method_7_code 4 = .ok (.iload_n 0, 1) := by decide +kernel
theorem d20_5 : decode method_7_code 5 = .ok (.ifCond .ne 80, 3) := by decide +kernel
theorem d20_85 : decode method_7_code 85 = .ok (.iload_n 0, 1) := by decide +kernel
theorem d20_86 : decode method_7_code 86 = .ok (.iconst 1, 1) := by decide +kernel
theorem d20_87 : decode method_7_code 87 = .ok (.if_icmp .ne 44, 3) := by decide +kernel
theorem d20_131 : decode method_7_code 131 = .ok (.bipush 8, 2) := by decide +kernel
theorem d20_133 : decode method_7_code 133 = .ok (.newarray .char, 2) := by decide +kernel
theorem d20_135 : decode method_7_code 135 = .ok (.dup, 1) := by decide +kernel
theorem d20_136 : decode method_7_code 136 = .ok (.iconst 0, 1) := by decide +kernel
theorem d20_137 : decode method_7_code 137 = .ok (.bipush 101, 2) := by decide +kernel
theorem d20_139 : decode method_7_code 139 = .ok (.castore, 1) := by decide +kernel
theorem d20_140 : decode method_7_code 140 = .ok (.dup, 1) := by decide +kernel
theorem d20_141 : decode method_7_code 141 = .ok (.iconst 1, 1) := by decide +kernel
theorem d20_142 : decode method_7_code 142 = .ok (.bipush 112, 2) := by decide +kernel
theorem d20_144 : decode method_7_code 144 = .ok (.castore, 1) := by decide +kernel
theorem d20_145 : decode method_7_code 145 = .ok (.dup, 1) := by decide +kernel
theorem d20_146 : decode method_7_code 146 = .ok (.iconst 2, 1) := by decide +kernel
theorem d20_147 : decode method_7_code 147 = .ok (.bipush 58, 2) := by decide +kernel
theorem d20_149 : decode method_7_code 149 = .ok (.castore, 1) := by decide +kernel
theorem d20_150 : decode method_7_code 150 = .ok (.dup, 1) := by decide +kernel
theorem d20_151 : decode method_7_code 151 = .ok (.iconst 3, 1) := by decide +kernel
theorem d20_152 : decode method_7_code 152 = .ok (.bipush 71, 2) := by decide +kernel
theorem d20_154 : decode method_7_code 154 = .ok (.castore, 1) := by decide +kernel
theorem d20_155 : decode method_7_code 155 = .ok (.dup, 1) := by decide +kernel
theorem d20_156 : decode method_7_code 156 = .ok (.iconst 4, 1) := by decide +kernel
theorem d20_157 : decode method_7_code 157 = .ok (.bipush 114, 2) := by decide +kernel
theorem d20_159 : decode method_7_code 159 = .ok (.castore, 1) := by decide +kernel
theorem d20_160 : decode method_7_code 160 = .ok (.dup, 1) := by decide +kernel
theorem d20_161 : decode method_7_code 161 = .ok (.iconst 5, 1) := by decide +kernel
theorem d20_162 : decode method_7_code 162 = .ok (.bipush 111, 2) := by decide +kernel
theorem d20_164 : decode method_7_code 164 = .ok (.castore, 1) := by decide +kernel
theorem d20_165 : decode method_7_code 165 = .ok (.dup, 1) := by decide +kernel
theorem d20_166 : decode method_7_code 166 = .ok (.bipush 6, 2) := by decide +kernel
theorem d20_168 : decode method_7_code 168 = .ok (.bipush 117, 2) := by decide +kernel
theorem d20_170 : decode method_7_code 170 = .ok (.castore, 1) := by decide +kernel
theorem d20_171 : decode method_7_code 171 = .ok (.dup, 1) := by decide +kernel
theorem d20_172 : decode method_7_code 172 = .ok (.bipush 7, 2) := by decide +kernel
theorem d20_174 : decode method_7_code 174 = .ok (.bipush 112, 2) := by decide +kernel
theorem d20_176 : decode method_7_code 176 = .ok (.castore, 1) := by decide +kernel
theorem d20_177 : decode method_7_code 177 = .ok (.areturn, 1) := by decide +kernel
theorem pn20 : plainName "com/example/leastwise/leastwise/core/AuthorizableTypeOfPinLaw" = true := by first | (simp [plainName, overriddenIn]; done) | decide +kernel
theorem ef20 (m : MethodId) (x0 : Int32) (x1 : Int32) : entryFrame m #[(.int x0), (.int x1)] 2 = mkF m 0 #[.val (.int x0), .val (.int x1)] [] := by first | (simp [entryFrame, mkF, argsToLocals, Value.category]; done) | rfl
set_option maxRecDepth 65536 in
set_option maxHeartbeats 40000000 in
theorem rm20 (l : Launch) (Z : State) (a0 : Array Value) (hw : ∀ d ∈ tables_1, d.before a0 Z = true) (ws : List Jvm.Cond)  (h0 : Heap) (n0 : Nat) (Z0 : n0 ≤ h0.size) :
    own_Met l (⟨"com/example/leastwise/leastwise/core/AuthorizableTypeOfPinLaw", "truncated", "(IZ)[C"⟩ : MethodName) method_7_code 2 (some (.array .char)) ws ({ frames := 0, cells := 1, slots := 8, locals := 0 } : Room) Z #[(.int (2 : Int32)), (.int (1 : Int32))] h0 (Q20 Z h0 n0) := by
  refine own_enter #[.val (.int (2 : Int32)), .val (.int (1 : Int32))] (plainFor_of_name pn20) (fun m => ef20 m (2 : Int32) (1 : Int32)) ?_
  intro p e s m below meth c s₁ hx hby hml hown hnm hZ hrt hlk X0 e0
  have N0 := Fr.nil n0
  refine own_tp (.int (1 : Int32)) 1 (fun _ q => XS.iloadN X0.here hx rfl (hb hby d20_0) rfl q) ?_
  refine own_d1 4 (fun _ q => XS.ifNo X0.here hx rfl (hb hby d20_1) rfl ((if0 _ _).trans (feq (by decide : ¬ ((1 : Int32) = (0 : Int32)))).1) q) ?_
  refine own_tp (.int (2 : Int32)) 5 (fun _ q => XS.iloadN X0.here hx rfl (hb hby d20_4) rfl q) ?_
  refine own_d1 85 (fun _ q => XS.ifYes X0.here hx rfl (pc0 := 5) (pc' := 85) rfl (hb hby d20_5) rfl ((if0 _ _).trans (feq (by decide : ¬ ((2 : Int32) = (0 : Int32)))).2) (by decide) (by decide) q) ?_
  refine own_tp (.int (2 : Int32)) 86 (fun _ q => XS.iloadN X0.here hx rfl (hb hby d20_85) rfl q) ?_
  refine own_tp (.int (1 : Int32)) 87 (fun _ q => XS.iconst X0.here hx rfl (hb hby d20_86) q) ?_
  refine own_d2 131 (fun _ q => XS.icmpYes X0.here hx rfl (pc0 := 87) (pc' := 131) rfl (hb hby d20_87) rfl (feq (by decide : ¬ ((2 : Int32) = (1 : Int32)))).2 (by decide) (by decide) q) ?_
  refine own_tp (.int (8 : Int32)) 133 (fun _ q => XS.bipush X0.here hx rfl (hb hby d20_131) q) ?_
  obtain ⟨T51, h51, k51, X51, e51, E51, A51, st51⟩ := newP X0 hx hZ (hw _ (List.mem_of_getElem? (i := 8) rfl)) e0 (g := (mkF m 133 #[.val (.int (2 : Int32)), .val (.int (1 : Int32))] [(.int (8 : Int32))])) rfl (hb hby d20_133) rfl (by decide) (cap := 8) (by decide) (by decide) (by decide) (by decide)
  obtain ⟨b51, g51⟩ : ∃ z, z = h0.size := ⟨_, rfl⟩
  rw [← g51] at A51 st51
  have V51 : Arv Z h51 b51 k51 .char (8 : Int32) [(.int (0 : Int32)), (.int (0 : Int32)), (.int (0 : Int32)), (.int (0 : Int32)), (.int (0 : Int32)), (.int (0 : Int32)), (.int (0 : Int32)), (.int (0 : Int32))] (.int (0 : Int32)) := (Arv.new A51 (by decide)).pad (pad_rep [] (.int (0 : Int32)) 8)
  have ge51 : n0 ≤ b51 := Nat.le_trans Z0 (Nat.le_of_eq g51.symm)
  have sz51 : h0.size ≤ b51 := Nat.le_trans (Keep.refl h0 []).1 (Nat.le_of_eq g51.symm)
  have K51 : Keep h0 h51 [] := (Keep.refl h0 []).ext E51
  have Z51 : n0 ≤ h51.size := Nat.le_trans Z0 E51.1
  refine own_t1 (.ref b51) 135 st51 ?_
  refine own_tp (.ref b51) 136 (fun _ q => XS.dup X51.here hx rfl (hb hby d20_135) rfl rfl q) ?_
  refine own_tp (.int (0 : Int32)) 137 (fun _ q => XS.iconst X51.here hx rfl (hb hby d20_136) q) ?_
  refine own_tp (.int (101 : Int32)) 139 (fun _ q => XS.bipush X51.here hx rfl (hb hby d20_137) q) ?_
  obtain ⟨cl52, Ar52, q52, S52, Nn52, H52, G52⟩ := (id V51)
  have hin52 : ¬ ((0 : Int32) < 0 ∨ cl52.slots.size ≤ ((0 : Int32)).toNatClampNeg) := inb_of S52 ⟨by decide, by decide⟩
  obtain ⟨T53, h53, X53, e53, W53, st53⟩ := stC X51 hx hZ e51 Ar52 (j := (0 : Int32)) hin52 (g := (mkF m 139 #[.val (.int (2 : Int32)), .val (.int (1 : Int32))] [(.int (101 : Int32)), (.int (0 : Int32)), (.ref b51), (.ref b51)])) rfl rfl (hb hby d20_139)
  have V53 := Arv.set Ar52 q52 S52 Nn52 H52 G52 (fits_nar_char _) W53 0 rfl (Nat.le_of_ble_eq_true rfl)
  have N53 := Fr.snoc X53 N0 ge51
  have K53 : Keep h0 h53 [] := K51.wr W53 (Or.inr sz51)
  have Z53 : n0 ≤ h53.size := Nat.le_trans Z51 (Nat.le_of_eq W53.size.symm)
  have V53' : Arv Z h53 b51 k51 .char (8 : Int32) [(.int (101 : Int32)), (.int (0 : Int32)), (.int (0 : Int32)), (.int (0 : Int32)), (.int (0 : Int32)), (.int (0 : Int32)), (.int (0 : Int32)), (.int (0 : Int32))] (.int (0 : Int32)) := V53
  refine own_cs [(.ref b51)] 140 st53 ?_
  refine own_tp (.ref b51) 141 (fun _ q => XS.dup X53.here hx rfl (hb hby d20_140) rfl rfl q) ?_
  refine own_tp (.int (1 : Int32)) 142 (fun _ q => XS.iconst X53.here hx rfl (hb hby d20_141) q) ?_
  refine own_tp (.int (112 : Int32)) 144 (fun _ q => XS.bipush X53.here hx rfl (hb hby d20_142) q) ?_
  obtain ⟨cl54, Ar54, q54, S54, Nn54, H54, G54⟩ := (id V53')
  have hin54 : ¬ ((1 : Int32) < 0 ∨ cl54.slots.size ≤ ((1 : Int32)).toNatClampNeg) := inb_of S54 ⟨by decide, by decide⟩
  obtain ⟨T55, h55, X55, e55, W55, st55⟩ := stC X53 hx hZ e53 Ar54 (j := (1 : Int32)) hin54 (g := (mkF m 144 #[.val (.int (2 : Int32)), .val (.int (1 : Int32))] [(.int (112 : Int32)), (.int (1 : Int32)), (.ref b51), (.ref b51)])) rfl rfl (hb hby d20_144)
  have V55 := Arv.set Ar54 q54 S54 Nn54 H54 G54 (fits_nar_char _) W55 1 rfl (Nat.le_of_ble_eq_true rfl)
  have N55 := Fr.snoc X55 N53 ge51
  have K55 : Keep h0 h55 [] := K53.wr W55 (Or.inr sz51)
  have Z55 : n0 ≤ h55.size := Nat.le_trans Z53 (Nat.le_of_eq W55.size.symm)
  have V55' : Arv Z h55 b51 k51 .char (8 : Int32) [(.int (101 : Int32)), (.int (112 : Int32)), (.int (0 : Int32)), (.int (0 : Int32)), (.int (0 : Int32)), (.int (0 : Int32)), (.int (0 : Int32)), (.int (0 : Int32))] (.int (0 : Int32)) := V55
  refine own_cs [(.ref b51)] 145 st55 ?_
  refine own_tp (.ref b51) 146 (fun _ q => XS.dup X55.here hx rfl (hb hby d20_145) rfl rfl q) ?_
  refine own_tp (.int (2 : Int32)) 147 (fun _ q => XS.iconst X55.here hx rfl (hb hby d20_146) q) ?_
  refine own_tp (.int (58 : Int32)) 149 (fun _ q => XS.bipush X55.here hx rfl (hb hby d20_147) q) ?_
  obtain ⟨cl56, Ar56, q56, S56, Nn56, H56, G56⟩ := (id V55')
  have hin56 : ¬ ((2 : Int32) < 0 ∨ cl56.slots.size ≤ ((2 : Int32)).toNatClampNeg) := inb_of S56 ⟨by decide, by decide⟩
  obtain ⟨T57, h57, X57, e57, W57, st57⟩ := stC X55 hx hZ e55 Ar56 (j := (2 : Int32)) hin56 (g := (mkF m 149 #[.val (.int (2 : Int32)), .val (.int (1 : Int32))] [(.int (58 : Int32)), (.int (2 : Int32)), (.ref b51), (.ref b51)])) rfl rfl (hb hby d20_149)
  have V57 := Arv.set Ar56 q56 S56 Nn56 H56 G56 (fits_nar_char _) W57 2 rfl (Nat.le_of_ble_eq_true rfl)
  have N57 := Fr.snoc X57 N55 ge51
  have K57 : Keep h0 h57 [] := K55.wr W57 (Or.inr sz51)
  have Z57 : n0 ≤ h57.size := Nat.le_trans Z55 (Nat.le_of_eq W57.size.symm)
  have V57' : Arv Z h57 b51 k51 .char (8 : Int32) [(.int (101 : Int32)), (.int (112 : Int32)), (.int (58 : Int32)), (.int (0 : Int32)), (.int (0 : Int32)), (.int (0 : Int32)), (.int (0 : Int32)), (.int (0 : Int32))] (.int (0 : Int32)) := V57
  refine own_cs [(.ref b51)] 150 st57 ?_
  refine own_tp (.ref b51) 151 (fun _ q => XS.dup X57.here hx rfl (hb hby d20_150) rfl rfl q) ?_
  refine own_tp (.int (3 : Int32)) 152 (fun _ q => XS.iconst X57.here hx rfl (hb hby d20_151) q) ?_
  refine own_tp (.int (71 : Int32)) 154 (fun _ q => XS.bipush X57.here hx rfl (hb hby d20_152) q) ?_
  obtain ⟨cl58, Ar58, q58, S58, Nn58, H58, G58⟩ := (id V57')
  have hin58 : ¬ ((3 : Int32) < 0 ∨ cl58.slots.size ≤ ((3 : Int32)).toNatClampNeg) := inb_of S58 ⟨by decide, by decide⟩
  obtain ⟨T59, h59, X59, e59, W59, st59⟩ := stC X57 hx hZ e57 Ar58 (j := (3 : Int32)) hin58 (g := (mkF m 154 #[.val (.int (2 : Int32)), .val (.int (1 : Int32))] [(.int (71 : Int32)), (.int (3 : Int32)), (.ref b51), (.ref b51)])) rfl rfl (hb hby d20_154)
  have V59 := Arv.set Ar58 q58 S58 Nn58 H58 G58 (fits_nar_char _) W59 3 rfl (Nat.le_of_ble_eq_true rfl)
  have N59 := Fr.snoc X59 N57 ge51
  have K59 : Keep h0 h59 [] := K57.wr W59 (Or.inr sz51)
  have Z59 : n0 ≤ h59.size := Nat.le_trans Z57 (Nat.le_of_eq W59.size.symm)
  have V59' : Arv Z h59 b51 k51 .char (8 : Int32) [(.int (101 : Int32)), (.int (112 : Int32)), (.int (58 : Int32)), (.int (71 : Int32)), (.int (0 : Int32)), (.int (0 : Int32)), (.int (0 : Int32)), (.int (0 : Int32))] (.int (0 : Int32)) := V59
  refine own_cs [(.ref b51)] 155 st59 ?_
  refine own_tp (.ref b51) 156 (fun _ q => XS.dup X59.here hx rfl (hb hby d20_155) rfl rfl q) ?_
  refine own_tp (.int (4 : Int32)) 157 (fun _ q => XS.iconst X59.here hx rfl (hb hby d20_156) q) ?_
  refine own_tp (.int (114 : Int32)) 159 (fun _ q => XS.bipush X59.here hx rfl (hb hby d20_157) q) ?_
  obtain ⟨cl60, Ar60, q60, S60, Nn60, H60, G60⟩ := (id V59')
  have hin60 : ¬ ((4 : Int32) < 0 ∨ cl60.slots.size ≤ ((4 : Int32)).toNatClampNeg) := inb_of S60 ⟨by decide, by decide⟩
  obtain ⟨T61, h61, X61, e61, W61, st61⟩ := stC X59 hx hZ e59 Ar60 (j := (4 : Int32)) hin60 (g := (mkF m 159 #[.val (.int (2 : Int32)), .val (.int (1 : Int32))] [(.int (114 : Int32)), (.int (4 : Int32)), (.ref b51), (.ref b51)])) rfl rfl (hb hby d20_159)
  have V61 := Arv.set Ar60 q60 S60 Nn60 H60 G60 (fits_nar_char _) W61 4 rfl (Nat.le_of_ble_eq_true rfl)
  have N61 := Fr.snoc X61 N59 ge51
  have K61 : Keep h0 h61 [] := K59.wr W61 (Or.inr sz51)
  have Z61 : n0 ≤ h61.size := Nat.le_trans Z59 (Nat.le_of_eq W61.size.symm)
  have V61' : Arv Z h61 b51 k51 .char (8 : Int32) [(.int (101 : Int32)), (.int (112 : Int32)), (.int (58 : Int32)), (.int (71 : Int32)), (.int (114 : Int32)), (.int (0 : Int32)), (.int (0 : Int32)), (.int (0 : Int32))] (.int (0 : Int32)) := V61
  refine own_cs [(.ref b51)] 160 st61 ?_
  refine own_tp (.ref b51) 161 (fun _ q => XS.dup X61.here hx rfl (hb hby d20_160) rfl rfl q) ?_
  refine own_tp (.int (5 : Int32)) 162 (fun _ q => XS.iconst X61.here hx rfl (hb hby d20_161) q) ?_
  refine own_tp (.int (111 : Int32)) 164 (fun _ q => XS.bipush X61.here hx rfl (hb hby d20_162) q) ?_
  obtain ⟨cl62, Ar62, q62, S62, Nn62, H62, G62⟩ := (id V61')
  have hin62 : ¬ ((5 : Int32) < 0 ∨ cl62.slots.size ≤ ((5 : Int32)).toNatClampNeg) := inb_of S62 ⟨by decide, by decide⟩
  obtain ⟨T63, h63, X63, e63, W63, st63⟩ := stC X61 hx hZ e61 Ar62 (j := (5 : Int32)) hin62 (g := (mkF m 164 #[.val (.int (2 : Int32)), .val (.int (1 : Int32))] [(.int (111 : Int32)), (.int (5 : Int32)), (.ref b51), (.ref b51)])) rfl rfl (hb hby d20_164)
  have V63 := Arv.set Ar62 q62 S62 Nn62 H62 G62 (fits_nar_char _) W63 5 rfl (Nat.le_of_ble_eq_true rfl)
  have N63 := Fr.snoc X63 N61 ge51
  have K63 : Keep h0 h63 [] := K61.wr W63 (Or.inr sz51)
  have Z63 : n0 ≤ h63.size := Nat.le_trans Z61 (Nat.le_of_eq W63.size.symm)
  have V63' : Arv Z h63 b51 k51 .char (8 : Int32) [(.int (101 : Int32)), (.int (112 : Int32)), (.int (58 : Int32)), (.int (71 : Int32)), (.int (114 : Int32)), (.int (111 : Int32)), (.int (0 : Int32)), (.int (0 : Int32))] (.int (0 : Int32)) := V63
  refine own_cs [(.ref b51)] 165 st63 ?_
  refine own_tp (.ref b51) 166 (fun _ q => XS.dup X63.here hx rfl (hb hby d20_165) rfl rfl q) ?_
  refine own_tp (.int (6 : Int32)) 168 (fun _ q => XS.bipush X63.here hx rfl (hb hby d20_166) q) ?_
  refine own_tp (.int (117 : Int32)) 170 (fun _ q => XS.bipush X63.here hx rfl (hb hby d20_168) q) ?_
  obtain ⟨cl64, Ar64, q64, S64, Nn64, H64, G64⟩ := (id V63')
  have hin64 : ¬ ((6 : Int32) < 0 ∨ cl64.slots.size ≤ ((6 : Int32)).toNatClampNeg) := inb_of S64 ⟨by decide, by decide⟩
  obtain ⟨T65, h65, X65, e65, W65, st65⟩ := stC X63 hx hZ e63 Ar64 (j := (6 : Int32)) hin64 (g := (mkF m 170 #[.val (.int (2 : Int32)), .val (.int (1 : Int32))] [(.int (117 : Int32)), (.int (6 : Int32)), (.ref b51), (.ref b51)])) rfl rfl (hb hby d20_170)
  have V65 := Arv.set Ar64 q64 S64 Nn64 H64 G64 (fits_nar_char _) W65 6 rfl (Nat.le_of_ble_eq_true rfl)
  have N65 := Fr.snoc X65 N63 ge51
  have K65 : Keep h0 h65 [] := K63.wr W65 (Or.inr sz51)
  have Z65 : n0 ≤ h65.size := Nat.le_trans Z63 (Nat.le_of_eq W65.size.symm)
  have V65' : Arv Z h65 b51 k51 .char (8 : Int32) [(.int (101 : Int32)), (.int (112 : Int32)), (.int (58 : Int32)), (.int (71 : Int32)), (.int (114 : Int32)), (.int (111 : Int32)), (.int (117 : Int32)), (.int (0 : Int32))] (.int (0 : Int32)) := V65
  refine own_cs [(.ref b51)] 171 st65 ?_
  refine own_tp (.ref b51) 172 (fun _ q => XS.dup X65.here hx rfl (hb hby d20_171) rfl rfl q) ?_
  refine own_tp (.int (7 : Int32)) 174 (fun _ q => XS.bipush X65.here hx rfl (hb hby d20_172) q) ?_
  refine own_tp (.int (112 : Int32)) 176 (fun _ q => XS.bipush X65.here hx rfl (hb hby d20_174) q) ?_
  obtain ⟨cl66, Ar66, q66, S66, Nn66, H66, G66⟩ := (id V65')
  have hin66 : ¬ ((7 : Int32) < 0 ∨ cl66.slots.size ≤ ((7 : Int32)).toNatClampNeg) := inb_of S66 ⟨by decide, by decide⟩
  obtain ⟨T67, h67, X67, e67, W67, st67⟩ := stC X65 hx hZ e65 Ar66 (j := (7 : Int32)) hin66 (g := (mkF m 176 #[.val (.int (2 : Int32)), .val (.int (1 : Int32))] [(.int (112 : Int32)), (.int (7 : Int32)), (.ref b51), (.ref b51)])) rfl rfl (hb hby d20_176)
  have V67 := Arv.set Ar66 q66 S66 Nn66 H66 G66 (fits_nar_char _) W67 7 rfl (Nat.le_of_ble_eq_true rfl)
  have N67 := Fr.snoc X67 N65 ge51
  have K67 : Keep h0 h67 [] := K65.wr W67 (Or.inr sz51)
  have Z67 : n0 ≤ h67.size := Nat.le_trans Z65 (Nat.le_of_eq W67.size.symm)
  have V67' : Arv Z h67 b51 k51 .char (8 : Int32) [(.int (101 : Int32)), (.int (112 : Int32)), (.int (58 : Int32)), (.int (71 : Int32)), (.int (114 : Int32)), (.int (111 : Int32)), (.int (117 : Int32)), (.int (112 : Int32))] (.int (0 : Int32)) := V67
  refine own_cs [(.ref b51)] 177 st67 ?_
  exact own_retR X67 hx hrt (hb hby d20_177) rfl rfl hlk (by decide) (by decide) e67 (⟨b51, _, rfl, N67, K67, ge51, sz51, V67'⟩)

def Q21 (Z : State) (h0 : Heap) (n0 : Nat) (v : Option Value) (h : Heap) (L : List Loc) : Prop := ∃ (b : Addr) (k : ClassId), v = some (.ref b) ∧ Fr n0 L ∧ Keep h0 h [] ∧ n0 ≤ b ∧ h0.size ≤ b ∧ Arv Z h b k .char (8 : Int32) [(.int (114 : Int32)), (.int (101 : Int32)), (.int (112 : Int32)), (.int (58 : Int32)), (.int (71 : Int32)), (.int (114 : Int32)), (.int (111 : Int32)), (.int (117 : Int32))] (.int (0 : Int32))

theorem d21_0 : decode method_7_code 0 = .ok (.iload_n 1, 1) := by decide +kernel
theorem d21_1 : decode method_7_code 1 = .ok (.ifCond .eq 177, 3) := by decide +kernel
theorem d21_178 : decode method_7_code 178 = .ok (.iload_n 0, 1) := by decide +kernel
theorem d21_179 : decode method_7_code 179 = .ok (.ifCond .ne 80, 3) := by decide +kernel
theorem d21_259 : decode method_7_code 259 = .ok (.iload_n 0, 1) := by decide +kernel
theorem d21_260 : decode method_7_code 260 = .ok (.iconst 1, 1) := by decide +kernel
theorem d21_261 : decode method_7_code 261 = .ok (.if_icmp .ne 44, 3) := by decide +kernel
theorem d21_305 : decode method_7_code 305 = .ok (.bipush 8, 2) := by decide +kernel
theorem d21_307 : decode method_7_code 307 = .ok (.newarray .char, 2) := by decide +kernel
theorem d21_309 : decode method_7_code 309 = .ok (.dup, 1) := by decide +kernel
theorem d21_310 : decode method_7_code 310 = .ok (.iconst 0, 1) := by decide +kernel
theorem d21_311 : decode method_7_code 311 = .ok (.bipush 114, 2) := by decide +kernel
theorem d21_313 : decode method_7_code 313 = .ok (.castore, 1) := by decide +kernel
theorem d21_314 : decode method_7_code 314 = .ok (.dup, 1) := by decide +kernel
theorem d21_315 : decode method_7_code 315 = .ok (.iconst 1, 1) := by decide +kernel
theorem d21_316 : decode method_7_code 316 = .ok (.bipush 101, 2) := by decide +kernel
theorem d21_318 : decode method_7_code 318 = .ok (.castore, 1) := by decide +kernel
theorem d21_319 : decode method_7_code 319 = .ok (.dup, 1) := by decide +kernel
theorem d21_320 : decode method_7_code 320 = .ok (.iconst 2, 1) := by decide +kernel
theorem d21_321 : decode method_7_code 321 = .ok (.bipush 112, 2) := by decide +kernel
theorem d21_323 : decode method_7_code 323 = .ok (.castore, 1) := by decide +kernel
theorem d21_324 : decode method_7_code 324 = .ok (.dup, 1) := by decide +kernel
theorem d21_325 : decode method_7_code 325 = .ok (.iconst 3, 1) := by decide +kernel
theorem d21_326 : decode method_7_code 326 = .ok (.bipush 58, 2) := by decide +kernel
theorem d21_328 : decode method_7_code 328 = .ok (.castore, 1) := by decide +kernel
theorem d21_329 : decode method_7_code 329 = .ok (.dup, 1) := by decide +kernel
theorem d21_330 : decode method_7_code 330 = .ok (.iconst 4, 1) := by decide +kernel
theorem d21_331 : decode method_7_code 331 = .ok (.bipush 71, 2) := by decide +kernel
theorem d21_333 : decode method_7_code 333 = .ok (.castore, 1) := by decide +kernel
theorem d21_334 : decode method_7_code 334 = .ok (.dup, 1) := by decide +kernel
theorem d21_335 : decode method_7_code 335 = .ok (.iconst 5, 1) := by decide +kernel
theorem d21_336 : decode method_7_code 336 = .ok (.bipush 114, 2) := by decide +kernel
theorem d21_338 : decode method_7_code 338 = .ok (.castore, 1) := by decide +kernel
theorem d21_339 : decode method_7_code 339 = .ok (.dup, 1) := by decide +kernel
theorem d21_340 : decode method_7_code 340 = .ok (.bipush 6, 2) := by decide +kernel
theorem d21_342 : decode method_7_code 342 = .ok (.bipush 111, 2) := by decide +kernel
theorem d21_344 : decode method_7_code 344 = .ok (.castore, 1) := by decide +kernel
theorem d21_345 : decode method_7_code 345 = .ok (.dup, 1) := by decide +kernel
theorem d21_346 : decode method_7_code 346 = .ok (.bipush 7, 2) := by decide +kernel
theorem d21_348 : decode method_7_code 348 = .ok (.bipush 117, 2) := by decide +kernel
theorem d21_350 : decode method_7_code 350 = .ok (.castore, 1) := by decide +kernel
theorem d21_351 : decode method_7_code 351 = .ok (.areturn, 1) := by decide +kernel
theorem pn21 : plainName "com/example/leastwise/leastwise/core/AuthorizableTypeOfPinLaw" = true := by first | (simp [plainName, overriddenIn]; done) | decide +kernel
theorem ef21 (m : MethodId) (x0 : Int32) (x1 : Int32) : entryFrame m #[(.int x0), (.int x1)] 2 = mkF m 0 #[.val (.int x0), .val (.int x1)] [] := by first | (simp [entryFrame, mkF, argsToLocals, Value.category]; done) | rfl
set_option maxRecDepth 65536 in
set_option maxHeartbeats 40000000 in
theorem rm21 (l : Launch) (Z : State) (a0 : Array Value) (hw : ∀ d ∈ tables_1, d.before a0 Z = true) (ws : List Jvm.Cond)  (h0 : Heap) (n0 : Nat) (Z0 : n0 ≤ h0.size) :
    own_Met l (⟨"com/example/leastwise/leastwise/core/AuthorizableTypeOfPinLaw", "truncated", "(IZ)[C"⟩ : MethodName) method_7_code 2 (some (.array .char)) ws ({ frames := 0, cells := 1, slots := 8, locals := 0 } : Room) Z #[(.int (2 : Int32)), (.int (0 : Int32))] h0 (Q21 Z h0 n0) := by
  refine own_enter #[.val (.int (2 : Int32)), .val (.int (0 : Int32))] (plainFor_of_name pn21) (fun m => ef21 m (2 : Int32) (0 : Int32)) ?_
  intro p e s m below meth c s₁ hx hby hml hown hnm hZ hrt hlk X0 e0
  have N0 := Fr.nil n0
  refine own_tp (.int (0 : Int32)) 1 (fun _ q => XS.iloadN X0.here hx rfl (hb hby d21_0) rfl q) ?_
  refine own_d1 178 (fun _ q => XS.ifYes X0.here hx rfl (pc0 := 1) (pc' := 178) rfl (hb hby d21_1) rfl ((if0 _ _).trans (teq (by decide : (0 : Int32) = (0 : Int32))).1) (by decide) (by decide) q) ?_
  refine own_tp (.int (2 : Int32)) 179 (fun _ q => XS.iloadN X0.here hx rfl (hb hby d21_178) rfl q) ?_
  refine own_d1 259 (fun _ q => XS.ifYes X0.here hx rfl (pc0 := 179) (pc' := 259) rfl (hb hby d21_179) rfl ((if0 _ _).trans (feq (by decide : ¬ ((2 : Int32) = (0 : Int32)))).2) (by decide) (by decide) q) ?_
  refine own_tp (.int (2 : Int32)) 260 (fun _ q => XS.iloadN X0.here hx rfl (hb hby d21_259) rfl q) ?_
  refine own_tp (.int (1 : Int32)) 261 (fun _ q => XS.iconst X0.here hx rfl (hb hby d21_260) q) ?_
  refine own_d2 305 (fun _ q => XS.icmpYes X0.here hx rfl (pc0 := 261) (pc' := 305) rfl (hb hby d21_261) rfl (feq (by decide : ¬ ((2 : Int32) = (1 : Int32)))).2 (by decide) (by decide) q) ?_
  refine own_tp (.int (8 : Int32)) 307 (fun _ q => XS.bipush X0.here hx rfl (hb hby d21_305) q) ?_
  obtain ⟨T51, h51, k51, X51, e51, E51, A51, st51⟩ := newP X0 hx hZ (hw _ (List.mem_of_getElem? (i := 8) rfl)) e0 (g := (mkF m 307 #[.val (.int (2 : Int32)), .val (.int (0 : Int32))] [(.int (8 : Int32))])) rfl (hb hby d21_307) rfl (by decide) (cap := 8) (by decide) (by decide) (by decide) (by decide)
  obtain ⟨b51, g51⟩ : ∃ z, z = h0.size := ⟨_, rfl⟩
  rw [← g51] at A51 st51
  have V51 : Arv Z h51 b51 k51 .char (8 : Int32) [(.int (0 : Int32)), (.int (0 : Int32)), (.int (0 : Int32)), (.int (0 : Int32)), (.int (0 : Int32)), (.int (0 : Int32)), (.int (0 : Int32)), (.int (0 : Int32))] (.int (0 : Int32)) := (Arv.new A51 (by decide)).pad (pad_rep [] (.int (0 : Int32)) 8)
  have ge51 : n0 ≤ b51 := Nat.le_trans Z0 (Nat.le_of_eq g51.symm)
  have sz51 : h0.size ≤ b51 := Nat.le_trans (Keep.refl h0 []).1 (Nat.le_of_eq g51.symm)
  have K51 : Keep h0 h51 [] := (Keep.refl h0 []).ext E51
  have Z51 : n0 ≤ h51.size := Nat.le_trans Z0 E51.1
  refine own_t1 (.ref b51) 309 st51 ?_
  refine own_tp (.ref b51) 310 (fun _ q => XS.dup X51.here hx rfl (hb hby d21_309) rfl rfl q) ?_
  refine own_tp (.int (0 : Int32)) 311 (fun _ q => XS.iconst X51.here hx rfl (hb hby d21_310) q) ?_
  refine own_tp (.int (114 : Int32)) 313 (fun _ q => XS.bipush X51.here hx rfl (hb hby d21_311) q) ?_
  obtain ⟨cl52, Ar52, q52, S52, Nn52, H52, G52⟩ := (id V51)
  have hin52 : ¬ ((0 : Int32) < 0 ∨ cl52.slots.size ≤ ((0 : Int32)).toNatClampNeg) := inb_of S52 ⟨by decide, by decide⟩
  obtain ⟨T53, h53, X53, e53, W53, st53⟩ := stC X51 hx hZ e51 Ar52 (j := (0 : Int32)) hin52 (g := (mkF m 313 #[.val (.int (2 : Int32)), .val (.int (0 : Int32))] [(.int (114 : Int32)), (.int (0 : Int32)), (.ref b51), (.ref b51)])) rfl rfl (hb hby d21_313)
  have V53 := Arv.set Ar52 q52 S52 Nn52 H52 G52 (fits_nar_char _) W53 0 rfl (Nat.le_of_ble_eq_true rfl)
  have N53 := Fr.snoc X53 N0 ge51
  have K53 : Keep h0 h53 [] := K51.wr W53 (Or.inr sz51)
  have Z53 : n0 ≤ h53.size := Nat.le_trans Z51 (Nat.le_of_eq W53.size.symm)
  have V53' : Arv Z h53 b51 k51 .char (8 : Int32) [(.int (114 : Int32)), (.int (0 : Int32)), (.int (0 : Int32)), (.int (0 : Int32)), (.int (0 : Int32)), (.int (0 : Int32)), (.int (0 : Int32)), (.int (0 : Int32))] (.int (0 : Int32)) := V53
  refine own_cs [(.ref b51)] 314 st53 ?_
  refine own_tp (.ref b51) 315 (fun _ q => XS.dup X53.here hx rfl (hb hby d21_314) rfl rfl q) ?_
  refine own_tp (.int (1 : Int32)) 316 (fun _ q => XS.iconst X53.here hx rfl (hb hby d21_315) q) ?_
  refine own_tp (.int (101 : Int32)) 318 (fun _ q => XS.bipush X53.here hx rfl (hb hby d21_316) q) ?_
  obtain ⟨cl54, Ar54, q54, S54, Nn54, H54, G54⟩ := (id V53')
  have hin54 : ¬ ((1 : Int32) < 0 ∨ cl54.slots.size ≤ ((1 : Int32)).toNatClampNeg) := inb_of S54 ⟨by decide, by decide⟩
  obtain ⟨T55, h55, X55, e55, W55, st55⟩ := stC X53 hx hZ e53 Ar54 (j := (1 : Int32)) hin54 (g := (mkF m 318 #[.val (.int (2 : Int32)), .val (.int (0 : Int32))] [(.int (101 : Int32)), (.int (1 : Int32)), (.ref b51), (.ref b51)])) rfl rfl (hb hby d21_318)
  have V55 := Arv.set Ar54 q54 S54 Nn54 H54 G54 (fits_nar_char _) W55 1 rfl (Nat.le_of_ble_eq_true rfl)
  have N55 := Fr.snoc X55 N53 ge51
  have K55 : Keep h0 h55 [] := K53.wr W55 (Or.inr sz51)
  have Z55 : n0 ≤ h55.size := Nat.le_trans Z53 (Nat.le_of_eq W55.size.symm)
  have V55' : Arv Z h55 b51 k51 .char (8 : Int32) [(.int (114 : Int32)), (.int (101 : Int32)), (.int (0 : Int32)), (.int (0 : Int32)), (.int (0 : Int32)), (.int (0 : Int32)), (.int (0 : Int32)), (.int (0 : Int32))] (.int (0 : Int32)) := V55
  refine own_cs [(.ref b51)] 319 st55 ?_
  refine own_tp (.ref b51) 320 (fun _ q => XS.dup X55.here hx rfl (hb hby d21_319) rfl rfl q) ?_
  refine own_tp (.int (2 : Int32)) 321 (fun _ q => XS.iconst X55.here hx rfl (hb hby d21_320) q) ?_
  refine own_tp (.int (112 : Int32)) 323 (fun _ q => XS.bipush X55.here hx rfl (hb hby d21_321) q) ?_
  obtain ⟨cl56, Ar56, q56, S56, Nn56, H56, G56⟩ := (id V55')
  have hin56 : ¬ ((2 : Int32) < 0 ∨ cl56.slots.size ≤ ((2 : Int32)).toNatClampNeg) := inb_of S56 ⟨by decide, by decide⟩
  obtain ⟨T57, h57, X57, e57, W57, st57⟩ := stC X55 hx hZ e55 Ar56 (j := (2 : Int32)) hin56 (g := (mkF m 323 #[.val (.int (2 : Int32)), .val (.int (0 : Int32))] [(.int (112 : Int32)), (.int (2 : Int32)), (.ref b51), (.ref b51)])) rfl rfl (hb hby d21_323)
  have V57 := Arv.set Ar56 q56 S56 Nn56 H56 G56 (fits_nar_char _) W57 2 rfl (Nat.le_of_ble_eq_true rfl)
  have N57 := Fr.snoc X57 N55 ge51
  have K57 : Keep h0 h57 [] := K55.wr W57 (Or.inr sz51)
  have Z57 : n0 ≤ h57.size := Nat.le_trans Z55 (Nat.le_of_eq W57.size.symm)
  have V57' : Arv Z h57 b51 k51 .char (8 : Int32) [(.int (114 : Int32)), (.int (101 : Int32)), (.int (112 : Int32)), (.int (0 : Int32)), (.int (0 : Int32)), (.int (0 : Int32)), (.int (0 : Int32)), (.int (0 : Int32))] (.int (0 : Int32)) := V57
  refine own_cs [(.ref b51)] 324 st57 ?_
  refine own_tp (.ref b51) 325 (fun _ q => XS.dup X57.here hx rfl (hb hby d21_324) rfl rfl q) ?_
  refine own_tp (.int (3 : Int32)) 326 (fun _ q => XS.iconst X57.here hx rfl (hb hby d21_325) q) ?_
  refine own_tp (.int (58 : Int32)) 328 (fun _ q => XS.bipush X57.here hx rfl (hb hby d21_326) q) ?_
  obtain ⟨cl58, Ar58, q58, S58, Nn58, H58, G58⟩ := (id V57')
  have hin58 : ¬ ((3 : Int32) < 0 ∨ cl58.slots.size ≤ ((3 : Int32)).toNatClampNeg) := inb_of S58 ⟨by decide, by decide⟩
  obtain ⟨T59, h59, X59, e59, W59, st59⟩ := stC X57 hx hZ e57 Ar58 (j := (3 : Int32)) hin58 (g := (mkF m 328 #[.val (.int (2 : Int32)), .val (.int (0 : Int32))] [(.int (58 : Int32)), (.int (3 : Int32)), (.ref b51), (.ref b51)])) rfl rfl (hb hby d21_328)
  have V59 := Arv.set Ar58 q58 S58 Nn58 H58 G58 (fits_nar_char _) W59 3 rfl (Nat.le_of_ble_eq_true rfl)
  have N59 := Fr.snoc X59 N57 ge51
  have K59 : Keep h0 h59 [] := K57.wr W59 (Or.inr sz51)
  have Z59 : n0 ≤ h59.size := Nat.le_trans Z57 (Nat.le_of_eq W59.size.symm)
  have V59' : Arv Z h59 b51 k51 .char (8 : Int32) [(.int (114 : Int32)), (.int (101 : Int32)), (.int (112 : Int32)), (.int (58 : Int32)), (.int (0 : Int32)), (.int (0 : Int32)), (.int (0 : Int32)), (.int (0 : Int32))] (.int (0 : Int32)) := V59
  refine own_cs [(.ref b51)] 329 st59 ?_
  refine own_tp (.ref b51) 330 (fun _ q => XS.dup X59.here hx rfl (hb hby d21_329) rfl rfl q) ?_
  refine own_tp (.int (4 : Int32)) 331 (fun _ q => XS.iconst X59.here hx rfl (hb hby d21_330) q) ?_
  refine own_tp (.int (71 : Int32)) 333 (fun _ q => XS.bipush X59.here hx rfl (hb hby d21_331) q) ?_
  obtain ⟨cl60, Ar60, q60, S60, Nn60, H60, G60⟩ := (id V59')
  have hin60 : ¬ ((4 : Int32) < 0 ∨ cl60.slots.size ≤ ((4 : Int32)).toNatClampNeg) := inb_of S60 ⟨by decide, by decide⟩
  obtain ⟨T61, h61, X61, e61, W61, st61⟩ := stC X59 hx hZ e59 Ar60 (j := (4 : Int32)) hin60 (g := (mkF m 333 #[.val (.int (2 : Int32)), .val (.int (0 : Int32))] [(.int (71 : Int32)), (.int (4 : Int32)), (.ref b51), (.ref b51)])) rfl rfl (hb hby d21_333)
  have V61 := Arv.set Ar60 q60 S60 Nn60 H60 G60 (fits_nar_char _) W61 4 rfl (Nat.le_of_ble_eq_true rfl)
  have N61 := Fr.snoc X61 N59 ge51
  have K61 : Keep h0 h61 [] := K59.wr W61 (Or.inr sz51)
  have Z61 : n0 ≤ h61.size := Nat.le_trans Z59 (Nat.le_of_eq W61.size.symm)
  have V61' : Arv Z h61 b51 k51 .char (8 : Int32) [(.int (114 : Int32)), (.int (101 : Int32)), (.int (112 : Int32)), (.int (58 : Int32)), (.int (71 : Int32)), (.int (0 : Int32)), (.int (0 : Int32)), (.int (0 : Int32))] (.int (0 : Int32)) := V61
  refine own_cs [(.ref b51)] 334 st61 ?_
  refine own_tp (.ref b51) 335 (fun _ q => XS.dup X61.here hx rfl (hb hby d21_334) rfl rfl q) ?_
  refine own_tp (.int (5 : Int32)) 336 (fun _ q => XS.iconst X61.here hx rfl (hb hby d21_335) q) ?_
  refine own_tp (.int (114 : Int32)) 338 (fun _ q => XS.bipush X61.here hx rfl (hb hby d21_336) q) ?_
  obtain ⟨cl62, Ar62, q62, S62, Nn62, H62, G62⟩ := (id V61')
  have hin62 : ¬ ((5 : Int32) < 0 ∨ cl62.slots.size ≤ ((5 : Int32)).toNatClampNeg) := inb_of S62 ⟨by decide, by decide⟩
  obtain ⟨T63, h63, X63, e63, W63, st63⟩ := stC X61 hx hZ e61 Ar62 (j := (5 : Int32)) hin62 (g := (mkF m 338 #[.val (.int (2 : Int32)), .val (.int (0 : Int32))] [(.int (114 : Int32)), (.int (5 : Int32)), (.ref b51), (.ref b51)])) rfl rfl (hb hby d21_338)
  have V63 := Arv.set Ar62 q62 S62 Nn62 H62 G62 (fits_nar_char _) W63 5 rfl (Nat.le_of_ble_eq_true rfl)
  have N63 := Fr.snoc X63 N61 ge51
  have K63 : Keep h0 h63 [] := K61.wr W63 (Or.inr sz51)
  have Z63 : n0 ≤ h63.size := Nat.le_trans Z61 (Nat.le_of_eq W63.size.symm)
  have V63' : Arv Z h63 b51 k51 .char (8 : Int32) [(.int (114 : Int32)), (.int (101 : Int32)), (.int (112 : Int32)), (.int (58 : Int32)), (.int (71 : Int32)), (.int (114 : Int32)), (.int (0 : Int32)), (.int (0 : Int32))] (.int (0 : Int32)) := V63
  refine own_cs [(.ref b51)] 339 st63 ?_
  refine own_tp (.ref b51) 340 (fun _ q => XS.dup X63.here hx rfl (hb hby d21_339) rfl rfl q) ?_
  refine own_tp (.int (6 : Int32)) 342 (fun _ q => XS.bipush X63.here hx rfl (hb hby d21_340) q) ?_
  refine own_tp (.int (111 : Int32)) 344 (fun _ q => XS.bipush X63.here hx rfl (hb hby d21_342) q) ?_
  obtain ⟨cl64, Ar64, q64, S64, Nn64, H64, G64⟩ := (id V63')
  have hin64 : ¬ ((6 : Int32) < 0 ∨ cl64.slots.size ≤ ((6 : Int32)).toNatClampNeg) := inb_of S64 ⟨by decide, by decide⟩
  obtain ⟨T65, h65, X65, e65, W65, st65⟩ := stC X63 hx hZ e63 Ar64 (j := (6 : Int32)) hin64 (g := (mkF m 344 #[.val (.int (2 : Int32)), .val (.int (0 : Int32))] [(.int (111 : Int32)), (.int (6 : Int32)), (.ref b51), (.ref b51)])) rfl rfl (hb hby d21_344)
  have V65 := Arv.set Ar64 q64 S64 Nn64 H64 G64 (fits_nar_char _) W65 6 rfl (Nat.le_of_ble_eq_true rfl)
  have N65 := Fr.snoc X65 N63 ge51
  have K65 : Keep h0 h65 [] := K63.wr W65 (Or.inr sz51)
  have Z65 : n0 ≤ h65.size := Nat.le_trans Z63 (Nat.le_of_eq W65.size.symm)
  have V65' : Arv Z h65 b51 k51 .char (8 : Int32) [(.int (114 : Int32)), (.int (101 : Int32)), (.int (112 : Int32)), (.int (58 : Int32)), (.int (71 : Int32)), (.int (114 : Int32)), (.int (111 : Int32)), (.int (0 : Int32))] (.int (0 : Int32)) := V65
  refine own_cs [(.ref b51)] 345 st65 ?_
  refine own_tp (.ref b51) 346 (fun _ q => XS.dup X65.here hx rfl (hb hby d21_345) rfl rfl q) ?_
  refine own_tp (.int (7 : Int32)) 348 (fun _ q => XS.bipush X65.here hx rfl (hb hby d21_346) q) ?_
  refine own_tp (.int (117 : Int32)) 350 (fun _ q => XS.bipush X65.here hx rfl (hb hby d21_348) q) ?_
  obtain ⟨cl66, Ar66, q66, S66, Nn66, H66, G66⟩ := (id V65')
  have hin66 : ¬ ((7 : Int32) < 0 ∨ cl66.slots.size ≤ ((7 : Int32)).toNatClampNeg) := inb_of S66 ⟨by decide, by decide⟩
  obtain ⟨T67, h67, X67, e67, W67, st67⟩ := stC X65 hx hZ e65 Ar66 (j := (7 : Int32)) hin66 (g := (mkF m 350 #[.val (.int (2 : Int32)), .val (.int (0 : Int32))] [(.int (117 : Int32)), (.int (7 : Int32)), (.ref b51), (.ref b51)])) rfl rfl (hb hby d21_350)
  have V67 := Arv.set Ar66 q66 S66 Nn66 H66 G66 (fits_nar_char _) W67 7 rfl (Nat.le_of_ble_eq_true rfl)
  have N67 := Fr.snoc X67 N65 ge51
  have K67 : Keep h0 h67 [] := K65.wr W67 (Or.inr sz51)
  have Z67 : n0 ≤ h67.size := Nat.le_trans Z65 (Nat.le_of_eq W67.size.symm)
  have V67' : Arv Z h67 b51 k51 .char (8 : Int32) [(.int (114 : Int32)), (.int (101 : Int32)), (.int (112 : Int32)), (.int (58 : Int32)), (.int (71 : Int32)), (.int (114 : Int32)), (.int (111 : Int32)), (.int (117 : Int32))] (.int (0 : Int32)) := V67
  refine own_cs [(.ref b51)] 351 st67 ?_
  exact own_retR X67 hx hrt (hb hby d21_351) rfl rfl hlk (by decide) (by decide) e67 (⟨b51, _, rfl, N67, K67, ge51, sz51, V67'⟩)

def Q1  (h0 : Heap) (n0 : Nat) (v : Option Value) (h : Heap) (L : List Loc) : Prop := v = some (.int (0 : Int32)) ∧ Fr n0 L ∧ h = h0

theorem d1_0 : decode jdk_42_method_66_code 0 = .ok (.aload_n 0, 1) := by decide +kernel
theorem d1_1 : decode jdk_42_method_66_code 1 = .ok (.aload_n 1, 1) := by decide +kernel
theorem d1_2 : decode jdk_42_method_66_code 2 = .ok (.if_acmp .ne 5, 3) := by decide +kernel
theorem d1_7 : decode jdk_42_method_66_code 7 = .ok (.aload_n 1, 1) := by decide +kernel
theorem d1_8 : decode jdk_42_method_66_code 8 = .ok (.instanceof 10, 3) := by decide +kernel
theorem d1_11 : decode jdk_42_method_66_code 11 = .ok (.ifCond .eq 43, 3) := by decide +kernel
theorem d1_54 : decode jdk_42_method_66_code 54 = .ok (.iconst 0, 1) := by decide +kernel
theorem d1_55 : decode jdk_42_method_66_code 55 = .ok (.ireturn, 1) := by decide +kernel
theorem pn1 : plainName "java/lang/String" = true := by first | (simp [plainName, overriddenIn]; done) | decide +kernel
theorem ef1 (m : MethodId) (x0 : Addr) : entryFrame m #[(.ref x0), .null] 3 = mkF m 0 #[.val (.ref x0), .val .null, .unset] [] := by first | (simp [entryFrame, mkF, argsToLocals, Value.category]; done) | rfl
set_option maxRecDepth 65536 in
set_option maxHeartbeats 40000000 in
theorem rm1 (l : Launch) (Z : State) (a0 : Array Value) (hw : ∀ d ∈ tables_1, d.before a0 Z = true) (ws : List Jvm.Cond) (a1 : Addr) (h0 : Heap) (n0 : Nat)  :
    own_Met l (⟨"java/lang/String", "equals", "(Ljava/lang/Object;)Z"⟩ : MethodName) jdk_42_method_66_code 3 (some .boolean) ws ({ frames := 0, cells := 0, slots := 0, locals := 0 } : Room) Z #[(.ref a1), .null] h0 (Q1 h0 n0) := by
  refine own_enter #[.val (.ref a1), .val .null, .unset] (plainFor_of_name pn1) (fun m => ef1 m a1) ?_
  intro p e s m below meth c s₁ hx hby hml hown hnm hZ hrt hlk X0 e0
  have N0 := Fr.nil n0
  refine own_tp (.ref a1) 1 (fun _ q => XS.aloadN X0.here hx rfl (hb hby d1_0) rfl rfl q) ?_
  refine own_tp .null 2 (fun _ q => XS.aloadN X0.here hx rfl (hb hby d1_1) rfl rfl q) ?_
  refine own_d2 7 (fun _ q => Jvm.RoadKit.acmp (g := (mkF m 2 #[.val (.ref a1), .val .null, .unset] [.null, (.ref a1)])) X0 hx rfl rfl rfl (pc0 := 2) (pc' := 7) (same := false) rfl (hb hby d1_2) rfl (decide_eq_false nofun) (by decide) (by decide) q) ?_
  refine own_tp .null 8 (fun _ q => XS.aloadN X0.here hx rfl (hb hby d1_7) rfl rfl q) ?_
  refine own_t1 (.int (0 : Int32)) 11 (fun _ q => X0.instanceofNull hx (g := (mkF m 8 #[.val (.ref a1), .val .null, .unset] [.null])) rfl rfl (hb hby d1_8) _ q) ?_
  refine own_d1 54 (fun _ q => XS.ifYes X0.here hx rfl (pc0 := 11) (pc' := 54) rfl (hb hby d1_11) rfl ((if0 _ _).trans (teq (by decide : (0 : Int32) = (0 : Int32))).1) (by decide) (by decide) q) ?_
  refine own_tp (.int (0 : Int32)) 55 (fun _ q => XS.iconst X0.here hx rfl (hb hby d1_54) q) ?_
  exact own_retN (t := .boolean) X0 hx hrt (hb hby d1_55) (by simp) hlk (by decide) (by decide) e0 (⟨rfl, N0, rfl⟩)

def Q2 (Z : State) (aa0 a1 a2 : Addr) (kv : ClassId) (h0 : Heap) (n0 : Nat) (v : Option Value) (h : Heap) (L : List Loc) : Prop := ∃ b : Addr, v = some (.ref b) ∧ Fr n0 L ∧ Ext h0 h ∧ Arv Z h b kv (.object "com/example/leastwise/leastwise/core/AuthorizableType") (3 : Int32) [.ref aa0, .ref a1, .ref a2] .null

theorem d2_0 : decode prog_29_method_1_code 0 = .ok (.getstatic 13, 3) := by decide +kernel
theorem d2_3 : decode prog_29_method_1_code 3 = .ok (.invokevirtual 17, 3) := by decide +kernel
theorem d2_6 : decode prog_29_method_1_code 6 = .ok (.checkcast 18, 3) := by decide +kernel
theorem d2_9 : decode prog_29_method_1_code 9 = .ok (.areturn, 1) := by decide +kernel
theorem pn2 : plainName "com/example/leastwise/leastwise/core/AuthorizableType" = true := by first | (simp [plainName, overriddenIn]; done) | decide +kernel
theorem ef2 (m : MethodId)  : entryFrame m #[] 0 = mkF m 0 #[] [] := by first | (simp [entryFrame, mkF, argsToLocals, Value.category]; done) | rfl
set_option maxRecDepth 65536 in
set_option maxHeartbeats 40000000 in
theorem rm2 (l : Launch) (Z : State) (a0 : Array Value) (hw : ∀ d ∈ tables_1, d.before a0 Z = true) (ws : List Jvm.Cond)  (h0 : Heap) (n0 : Nat) (Z0 : n0 ≤ h0.size) (G1 : Int32) (P5 : ¬ G1 = (0 : Int32)) (O0 : Old Z n0 h0) (Sc : Sta Z Z.heap "java/lang/String" "COMPACT_STRINGS" "Z" (.int G1)) (aa0 p0s v0s : Addr) (k0s : ClassId) (S0 : Sta Z Z.heap "com/example/leastwise/leastwise/core/AuthorizableType" "SYSTEM_USER" "Lcom/example/leastwise/leastwise/core/AuthorizableType;" (.ref aa0)) (E0 : Exa Z Z.heap aa0 "com/example/leastwise/leastwise/core/AuthorizableType") (F0 : Fld Z Z.heap aa0 "com/example/leastwise/leastwise/core/AuthorizableType" "primaryType" "Ljava/lang/String;" (.ref p0s)) (T0s : own_St Z Z.heap p0s v0s k0s [(114 : Int32), (101 : Int32), (112 : Int32), (58 : Int32), (83 : Int32), (121 : Int32), (115 : Int32), (116 : Int32), (101 : Int32), (109 : Int32), (85 : Int32), (115 : Int32), (101 : Int32), (114 : Int32)]) (a1 p1s v1s : Addr) (k1s : ClassId) (S1 : Sta Z Z.heap "com/example/leastwise/leastwise/core/AuthorizableType" "USER" "Lcom/example/leastwise/leastwise/core/AuthorizableType;" (.ref a1)) (E1 : Exa Z Z.heap a1 "com/example/leastwise/leastwise/core/AuthorizableType") (F1 : Fld Z Z.heap a1 "com/example/leastwise/leastwise/core/AuthorizableType" "primaryType" "Ljava/lang/String;" (.ref p1s)) (T1s : own_St Z Z.heap p1s v1s k1s [(114 : Int32), (101 : Int32), (112 : Int32), (58 : Int32), (85 : Int32), (115 : Int32), (101 : Int32), (114 : Int32)]) (a2 p2s v2s : Addr) (k2s : ClassId) (S2 : Sta Z Z.heap "com/example/leastwise/leastwise/core/AuthorizableType" "GROUP" "Lcom/example/leastwise/leastwise/core/AuthorizableType;" (.ref a2)) (E2 : Exa Z Z.heap a2 "com/example/leastwise/leastwise/core/AuthorizableType") (F2 : Fld Z Z.heap a2 "com/example/leastwise/leastwise/core/AuthorizableType" "primaryType" "Ljava/lang/String;" (.ref p2s)) (T2s : own_St Z Z.heap p2s v2s k2s [(114 : Int32), (101 : Int32), (112 : Int32), (58 : Int32), (71 : Int32), (114 : Int32), (111 : Int32), (117 : Int32), (112 : Int32)]) (av : Addr) (kv : ClassId) (Sv : Sta Z Z.heap "com/example/leastwise/leastwise/core/AuthorizableType" "$VALUES" "[Lcom/example/leastwise/leastwise/core/AuthorizableType;" (.ref av)) (Ev : Exa Z Z.heap av "[Lcom/example/leastwise/leastwise/core/AuthorizableType;") (Vv : Arv Z Z.heap av kv (.object "com/example/leastwise/leastwise/core/AuthorizableType") (3 : Int32) [.ref aa0, .ref a1, .ref a2] .null) :
    own_Met l (⟨"com/example/leastwise/leastwise/core/AuthorizableType", "values", "()[Lcom/example/leastwise/leastwise/core/AuthorizableType;"⟩ : MethodName) prog_29_method_1_code 0 (some (.array (.object "com/example/leastwise/leastwise/core/AuthorizableType"))) ws ({ frames := 1, cells := 1, slots := 3, locals := 14 } : Room) Z #[] h0 (Q2 Z aa0 a1 a2 kv h0 n0) := by
  refine own_enter #[] (plainFor_of_name pn2) (fun m => ef2 m ) ?_
  intro p e s m below meth c s₁ hx hby hml hown hnm hZ hrt hlk X0 e0
  have N0 := Fr.nil n0
  obtain ⟨T51, X51, e51, st51⟩ := getS2 X0 hx hZ hown (host := "") (Or.inl (hw _ (List.mem_of_getElem? (i := 60) rfl))) Via.refl e0 (Sv.ext O0.2) (g := (mkF m 0 #[] [])) rfl (hb hby d2_0)
  refine own_tp (.ref av) 3 st51 ?_
  obtain ⟨T52, h52, X52, e52, E52, V52, A52, st52⟩ := cloneH X51 hx hZ hown (hw _ (List.mem_of_getElem? (i := 62) rfl)) (hw _ (List.mem_of_getElem? (i := 63) rfl)) (hw _ (List.mem_of_getElem? (i := 67) rfl)) (hw _ (List.mem_of_getElem? (i := 65) rfl)) (hw _ (List.mem_of_getElem? (i := 66) rfl)) (hw _ (List.mem_of_getElem? (i := 68) rfl)) e51 (Arv.arh (Vv.ext O0.2)) (Ev.ext O0.2) (g := (mkF m 3 #[] [(.ref av)])) rfl (by rw [hml]; rfl) rfl (hb hby d2_3) (by decide) (W := 0) (cap := 3) (by show 2 * 0 + _ ≤ _; exact Nat.le_of_eq rfl) (by decide) (by decide) (by decide) (by decide)
  obtain ⟨b52, g52⟩ : ∃ z, z = h0.size := ⟨_, rfl⟩
  rw [← g52] at A52 V52 st52
  have V52' : Arv Z h52 b52 kv (.object "com/example/leastwise/leastwise/core/AuthorizableType") (3 : Int32) [.ref aa0, .ref a1, .ref a2] .null := V52
  have ge52 : n0 ≤ b52 := Nat.le_trans Z0 (Nat.le_of_eq g52.symm)
  have O52 := Old.ext O0 E52
  have Z52 : n0 ≤ h52.size := Nat.le_trans Z0 E52.1
  refine own_t1 (.ref b52) 6 st52 ?_
  obtain ⟨T53, X53, e53, st53⟩ := castY X52 hx hZ hown (hw _ (List.mem_of_getElem? (i := 73) rfl)) e52 (Ins.self A52) (g := (mkF m 6 #[] [(.ref b52)])) rfl rfl (hb hby d2_6)
  refine own_d0 9 st53 ?_
  exact own_retR X53 hx hrt (hb hby d2_9) rfl rfl hlk (by decide) (by decide) e53 (⟨b52, rfl, N0, E52, V52'⟩)

def Q3 (oc : Option (List Int32)) (aa0 a1 a2 : Addr) (h0 : Heap) (n0 : Nat) (v : Option Value) (h : Heap) (L : List Loc) : Prop := v = some (own_ref oc aa0 a1 a2) ∧ Fr n0 L ∧ Ext h0 h

theorem d3_0 : decode prog_29_method_7_code 0 = .ok (.invokestatic 42, 3) := by decide +kernel
theorem d3_3 : decode prog_29_method_7_code 3 = .ok (.astore_n 1, 1) := by decide +kernel
theorem d3_4 : decode prog_29_method_7_code 4 = .ok (.aload_n 1, 1) := by decide +kernel
theorem d3_5 : decode prog_29_method_7_code 5 = .ok (.arraylength, 1) := by decide +kernel
theorem d3_6 : decode prog_29_method_7_code 6 = .ok (.istore_n 2, 1) := by decide +kernel
theorem d3_7 : decode prog_29_method_7_code 7 = .ok (.iconst 0, 1) := by decide +kernel
theorem d3_8 : decode prog_29_method_7_code 8 = .ok (.istore_n 3, 1) := by decide +kernel
theorem d3_9 : decode prog_29_method_7_code 9 = .ok (.iload_n 3, 1) := by decide +kernel
theorem d3_10 : decode prog_29_method_7_code 10 = .ok (.iload_n 2, 1) := by decide +kernel
theorem d3_11 : decode prog_29_method_7_code 11 = .ok (.if_icmp .ge 29, 3) := by decide +kernel
theorem d3_14 : decode prog_29_method_7_code 14 = .ok (.aload_n 1, 1) := by decide +kernel
theorem d3_15 : decode prog_29_method_7_code 15 = .ok (.iload_n 3, 1) := by decide +kernel
theorem d3_16 : decode prog_29_method_7_code 16 = .ok (.aaload, 1) := by decide +kernel
theorem d3_17 : decode prog_29_method_7_code 17 = .ok (.astore 4, 2) := by decide +kernel
theorem d3_19 : decode prog_29_method_7_code 19 = .ok (.aload 4, 2) := by decide +kernel
theorem d3_21 : decode prog_29_method_7_code 21 = .ok (.getfield 32, 3) := by decide +kernel
theorem d3_24 : decode prog_29_method_7_code 24 = .ok (.aload_n 0, 1) := by decide +kernel
theorem d3_25 : decode prog_29_method_7_code 25 = .ok (.invokevirtual 46, 3) := by decide +kernel
theorem d3_28 : decode prog_29_method_7_code 28 = .ok (.ifCond .eq 6, 3) := by decide +kernel
theorem d3_31 : decode prog_29_method_7_code 31 = .ok (.aload 4, 2) := by decide +kernel
theorem d3_33 : decode prog_29_method_7_code 33 = .ok (.areturn, 1) := by decide +kernel
theorem d3_34 : decode prog_29_method_7_code 34 = .ok (.iinc 3 1, 3) := by decide +kernel
theorem d3_37 : decode prog_29_method_7_code 37 = .ok (.goto (-28), 3) := by decide +kernel
theorem d3_40 : decode prog_29_method_7_code 40 = .ok (.aconst_null, 1) := by decide +kernel
theorem d3_41 : decode prog_29_method_7_code 41 = .ok (.areturn, 1) := by decide +kernel
theorem pn3 : plainName "com/example/leastwise/leastwise/core/AuthorizableType" = true := by first | (simp [plainName, overriddenIn]; done) | decide +kernel
theorem pd3_0 : parseMethodDescriptor "()[Lcom/example/leastwise/leastwise/core/AuthorizableType;" = some ⟨[], some (.array (.object "com/example/leastwise/leastwise/core/AuthorizableType"))⟩ := by decide +kernel
theorem pd3_1 : parseMethodDescriptor "(Ljava/lang/Object;)Z" = some ⟨[(.object "java/lang/Object")], some .boolean⟩ := by decide +kernel
theorem ef3 (m : MethodId) (x0 : Value) (hx0 : x0.isRef = true) : entryFrame m #[x0] 5 = mkF m 0 #[.val x0, .unset, .unset, .unset, .unset] [] := by simp [entryFrame, mkF, argsToLocals, own_cat1 hx0, own_catI, own_catJ, own_catR]
set_option maxRecDepth 65536 in
set_option maxHeartbeats 40000000 in
theorem rm3 (l : Launch) (Z : State) (a0 : Array Value) (hw : ∀ d ∈ tables_1, d.before a0 Z = true) (ws : List Jvm.Cond) (x1 : Value) (oc : Option (List Int32)) (h0 : Heap) (n0 : Nat) (q1 : x1.isRef = true) (Z0 : n0 ≤ h0.size) (G1 : Int32) (P5 : ¬ G1 = (0 : Int32)) (O0 : Old Z n0 h0) (Sc : Sta Z Z.heap "java/lang/String" "COMPACT_STRINGS" "Z" (.int G1)) (aa0 p0s v0s : Addr) (k0s : ClassId) (S0 : Sta Z Z.heap "com/example/leastwise/leastwise/core/AuthorizableType" "SYSTEM_USER" "Lcom/example/leastwise/leastwise/core/AuthorizableType;" (.ref aa0)) (E0 : Exa Z Z.heap aa0 "com/example/leastwise/leastwise/core/AuthorizableType") (F0 : Fld Z Z.heap aa0 "com/example/leastwise/leastwise/core/AuthorizableType" "primaryType" "Ljava/lang/String;" (.ref p0s)) (T0s : own_St Z Z.heap p0s v0s k0s [(114 : Int32), (101 : Int32), (112 : Int32), (58 : Int32), (83 : Int32), (121 : Int32), (115 : Int32), (116 : Int32), (101 : Int32), (109 : Int32), (85 : Int32), (115 : Int32), (101 : Int32), (114 : Int32)]) (a1 p1s v1s : Addr) (k1s : ClassId) (S1 : Sta Z Z.heap "com/example/leastwise/leastwise/core/AuthorizableType" "USER" "Lcom/example/leastwise/leastwise/core/AuthorizableType;" (.ref a1)) (E1 : Exa Z Z.heap a1 "com/example/leastwise/leastwise/core/AuthorizableType") (F1 : Fld Z Z.heap a1 "com/example/leastwise/leastwise/core/AuthorizableType" "primaryType" "Ljava/lang/String;" (.ref p1s)) (T1s : own_St Z Z.heap p1s v1s k1s [(114 : Int32), (101 : Int32), (112 : Int32), (58 : Int32), (85 : Int32), (115 : Int32), (101 : Int32), (114 : Int32)]) (a2 p2s v2s : Addr) (k2s : ClassId) (S2 : Sta Z Z.heap "com/example/leastwise/leastwise/core/AuthorizableType" "GROUP" "Lcom/example/leastwise/leastwise/core/AuthorizableType;" (.ref a2)) (E2 : Exa Z Z.heap a2 "com/example/leastwise/leastwise/core/AuthorizableType") (F2 : Fld Z Z.heap a2 "com/example/leastwise/leastwise/core/AuthorizableType" "primaryType" "Ljava/lang/String;" (.ref p2s)) (T2s : own_St Z Z.heap p2s v2s k2s [(114 : Int32), (101 : Int32), (112 : Int32), (58 : Int32), (71 : Int32), (114 : Int32), (111 : Int32), (117 : Int32), (112 : Int32)]) (av : Addr) (kv : ClassId) (Sv : Sta Z Z.heap "com/example/leastwise/leastwise/core/AuthorizableType" "$VALUES" "[Lcom/example/leastwise/leastwise/core/AuthorizableType;" (.ref av)) (Ev : Exa Z Z.heap av "[Lcom/example/leastwise/leastwise/core/AuthorizableType;") (Vv : Arv Z Z.heap av kv (.object "com/example/leastwise/leastwise/core/AuthorizableType") (3 : Int32) [.ref aa0, .ref a1, .ref a2] .null) (hS : own_SC Z h0 x1 oc)  :
    own_Met l (⟨"com/example/leastwise/leastwise/core/AuthorizableType", "of", "(Ljava/lang/String;)Lcom/example/leastwise/leastwise/core/AuthorizableType;"⟩ : MethodName) prog_29_method_7_code 5 (some (.object "com/example/leastwise/leastwise/core/AuthorizableType")) ws ({ frames := 3, cells := 1, slots := 3, locals := 33 } : Room) Z #[x1] h0 (Q3 oc aa0 a1 a2 h0 n0) := by
  refine own_enter #[.val x1, .unset, .unset, .unset, .unset] (plainFor_of_name pn3) (fun m => ef3 m x1 q1) ?_
  intro p e s m below meth c s₁ hx hby hml hown hnm hZ hrt hlk X0 e0
  have N0 := Fr.nil n0
  rcases hS with ⟨rfl, rfl⟩ | ⟨sa, st, sk, cs, rfl, rfl, hst⟩
  ·
    have heq : ∀ d ∈ StrChars.Road.wordsEq, d.before a0 Z = true := fun d hd => hw d ((by decide +kernel : ∀ d ∈ StrChars.Road.wordsEq, d ∈ tables_1) d hd)
    obtain ⟨_, _, ⟨T51, L51, k51, n51⟩, -, X51, ⟨Lc51, hQ51, l51, y51, z51⟩, st51⟩ := Jvm.LawKit.callS X0 hx (y := (⟨"com/example/leastwise/leastwise/core/AuthorizableType", "values", "()[Lcom/example/leastwise/leastwise/core/AuthorizableType;"⟩ : MethodName)) hown (mvT hZ (hw _ (List.mem_of_getElem? (i := 57) rfl))) (mvT hZ (hw _ (List.mem_of_getElem? (i := 58) rfl))) (mvT hZ (hw _ (List.mem_of_getElem? (i := 55) rfl))) (mvT hZ (hw _ (List.mem_of_getElem? (i := 59) rfl))) (by decide) (backOf (W := 0) (rm2 l Z a0 hw [] h0 n0 Z0 G1 P5 O0 Sc aa0 p0s v0s k0s S0 E0 F0 T0s a1 p1s v1s k1s S1 E1 F1 T1s a2 p2s v2s k2s S2 E2 F2 T2s av kv Sv Ev Vv) hZ (hw _ (List.mem_of_getElem? (i := 59) rfl)) (hw _ (List.mem_of_getElem? (i := 55) rfl)) (by decide) (by decide)) (g := (mkF m 0 #[.val .null, .unset, .unset, .unset, .unset] [])) rfl (by rw [hml]; rfl) (argsL := []) (rest := []) (lenOf pd3_0 rfl) rfl (by show 2 * 0 + _ ≤ _; exact Nat.le_of_eq rfl) (hb hby d3_0) (fun _ _ => ⟨rfl, e0, (by decide : 0 + 1 ≤ _), (by decide : 0 + 3 ≤ _)⟩)
    dsimp only [Pt.U, Pt.locs, Pt.cells, Pt.slots] at X51 l51 y51 z51 st51 hQ51
    subst l51 y51 z51
    obtain ⟨vb51, rfl, Nq51, Ex51, V51⟩ := hQ51
    have N51 := Fr.app N0 Nq51
    have O51 := Old.ext O0 Ex51
    have Z51 : n0 ≤ T51.heap.size := Nat.le_trans Z0 Ex51.1
    refine own_tp (.ref vb51) 3 st51 ?_
    refine own_ls #[.val .null, .val (.ref vb51), .unset, .unset, .unset] 4 (fun _ q => XS.astoreN X51.here hx rfl (hb hby d3_3) rfl rfl (l' := #[.val .null, .val (.ref vb51), .unset, .unset, .unset]) rfl q) ?_
    refine own_tp (.ref vb51) 5 (fun _ q => XS.aloadN X51.here hx rfl (hb hby d3_4) rfl rfl q) ?_
    obtain ⟨cl52, Ar52, -, Sz52, Nn52, -, -⟩ := (id V51)
    refine own_t1 (.int (3 : Int32)) 6 (fun t q => X51.arraylength hx Ar52.1 (State.isArrayOf_alike hZ.alike Ar52.2.1) (g := (mkF m 5 #[.val .null, .val (.ref vb51), .unset, .unset, .unset] [(.ref vb51)])) rfl rfl (hb hby d3_5) _ (by rw [len_of Sz52 Nn52]; exact q)) ?_
    refine own_ls #[.val .null, .val (.ref vb51), .val (.int (3 : Int32)), .unset, .unset] 7 (fun _ q => XS.istoreN X51.here hx rfl (hb hby d3_6) rfl (l' := #[.val .null, .val (.ref vb51), .val (.int (3 : Int32)), .unset, .unset]) rfl q) ?_
    refine own_tp (.int (0 : Int32)) 8 (fun _ q => XS.iconst X51.here hx rfl (hb hby d3_7) q) ?_
    refine own_ls #[.val .null, .val (.ref vb51), .val (.int (3 : Int32)), .val (.int (0 : Int32)), .unset] 9 (fun _ q => XS.istoreN X51.here hx rfl (hb hby d3_8) rfl (l' := #[.val .null, .val (.ref vb51), .val (.int (3 : Int32)), .val (.int (0 : Int32)), .unset]) rfl q) ?_
    refine own_tp (.int (0 : Int32)) 10 (fun _ q => XS.iloadN X51.here hx rfl (hb hby d3_9) rfl q) ?_
    refine own_tp (.int (3 : Int32)) 11 (fun _ q => XS.iloadN X51.here hx rfl (hb hby d3_10) rfl q) ?_
    refine own_d2 14 (fun _ q => XS.icmpNo X51.here hx rfl (hb hby d3_11) rfl (tlt (by decide : (0 : Int32) < (3 : Int32))).2.1 q) ?_
    refine own_tp (.ref vb51) 15 (fun _ q => XS.aloadN X51.here hx rfl (hb hby d3_14) rfl rfl q) ?_
    refine own_tp (.int (0 : Int32)) 16 (fun _ q => XS.iloadN X51.here hx rfl (hb hby d3_15) rfl q) ?_
    obtain ⟨cl53, Ar53, q53, S53, Nn53, H53, G53⟩ := (id V51)
    have hin53 : ¬ ((0 : Int32) < 0 ∨ cl53.slots.size ≤ ((0 : Int32)).toNatClampNeg) := inb_of S53 ⟨by decide, by decide⟩
    have hat53 : cl53.slots[((0 : Int32)).toNatClampNeg]? = some (.ref aa0) := H53.at hin53 rfl
    refine own_t2 (.ref aa0) 17 (fun _ q => X51.aaload hx (j := (0 : Int32)) (v := (.ref aa0)) Ar53.1 (State.isArrayOf_alike hZ.alike Ar53.2.1) rfl Ar53.2.2 hin53 hat53 (g := (mkF m 16 #[.val .null, .val (.ref vb51), .val (.int (3 : Int32)), .val (.int (0 : Int32)), .unset] [(.int (0 : Int32)), (.ref vb51)])) rfl rfl (hb hby d3_16) _ q) ?_
    refine own_ls #[.val .null, .val (.ref vb51), .val (.int (3 : Int32)), .val (.int (0 : Int32)), .val (.ref aa0)] 19 (fun _ q => XS.astore X51.here hx rfl (hb hby d3_17) rfl rfl (l' := #[.val .null, .val (.ref vb51), .val (.int (3 : Int32)), .val (.int (0 : Int32)), .val (.ref aa0)]) rfl q) ?_
    refine own_tp (.ref aa0) 21 (fun _ q => XS.aload X51.here hx rfl (hb hby d3_19) rfl rfl q) ?_
    obtain ⟨T54, X54, e54, st54⟩ := getF X51 hx hZ hown (host := "") (Or.inl (hw _ (List.mem_of_getElem? (i := 75) rfl))) Via.refl rfl (F0.ext O51.2) (g := (mkF m 21 #[.val .null, .val (.ref vb51), .val (.int (3 : Int32)), .val (.int (0 : Int32)), .val (.ref aa0)] [(.ref aa0)])) rfl rfl (hb hby d3_21)
    refine own_t1 (.ref p0s) 24 st54 ?_
    refine own_tp .null 25 (fun _ q => XS.aloadN X54.here hx rfl (hb hby d3_24) rfl rfl q) ?_
    obtain ⟨cq55, kq55, q55a, q55b, q55c⟩ := isOf hZ e54 (T0s.1.ext O51.2)
    obtain ⟨_, _, ⟨T55, L55, k55, n55⟩, -, X55, ⟨Lc55, hQ55, l55, y55, z55⟩, st55⟩ := X54.virtualBack hx (y := (⟨"java/lang/String", "equals", "(Ljava/lang/Object;)Z"⟩ : MethodName)) (z := (⟨"java/lang/String", "equals", "(Ljava/lang/Object;)Z"⟩ : MethodName)) hown (mvT hZ (hw _ (List.mem_of_getElem? (i := 77) rfl))) (mvT hZ (hw _ (List.mem_of_getElem? (i := 42) rfl))) (notFace_of_selects (args := #[]) (mvT hZ (hw _ (List.mem_of_getElem? (i := 44) rfl)))) (mvT hZ (hw _ (List.mem_of_getElem? (i := 44) rfl))) (mvT hZ (hw _ (List.mem_of_getElem? (i := 43) rfl))) (by decide) (backOf (W := 0) (rm1 l Z a0 hw [] p0s T51.heap n0) hZ (hw _ (List.mem_of_getElem? (i := 45) rfl)) (hw _ (List.mem_of_getElem? (i := 3) rfl)) (by decide) (by decide)) q55a q55c (g := (mkF m 25 #[.val .null, .val (.ref vb51), .val (.int (3 : Int32)), .val (.int (0 : Int32)), .val (.ref aa0)] [.null, (.ref p0s)])) rfl (by rw [hml]; rfl) (Steps.refl _) (argsL := [.null]) (rest := []) (lenOf pd3_1 rfl) rfl (by show 2 * 0 + _ ≤ _; exact Nat.le_of_eq rfl) (hb hby d3_25) (fun _ _ => ⟨rfl, e54, (by decide : 1 + 0 ≤ _), (by decide : 3 + 0 ≤ _)⟩)
    dsimp only [Pt.U, Pt.locs, Pt.cells, Pt.slots] at X55 l55 y55 z55 st55 hQ55
    subst l55 y55 z55
    obtain ⟨rfl, Nq55, eq55⟩ := hQ55
    have N55 := Fr.app N51 Nq55
    refine own_csR [(.int (0 : Int32))] 28 st55 ?_
    refine own_d1 34 (fun _ q => XS.ifYes X55.here hx rfl (pc0 := 28) (pc' := 34) rfl (hb hby d3_28) rfl ((if0 _ _).trans (teq (by decide : (0 : Int32) = (0 : Int32))).1) (by decide) (by decide) q) ?_
    refine own_li #[.val .null, .val (.ref vb51), .val (.int (3 : Int32)), .val (.int (1 : Int32)), .val (.ref aa0)] 37 (fun _ q => XS.iinc X55.here hx rfl (hb hby d3_34) rfl (l' := #[.val .null, .val (.ref vb51), .val (.int (3 : Int32)), .val (.int (1 : Int32)), .val (.ref aa0)]) rfl q) ?_
    refine own_d0 9 (fun _ q => XS.goto X55.here hx rfl (pc0 := 37) (pc' := 9) rfl (hb hby d3_37) (by decide) (by decide) q) ?_
    refine own_tp (.int (1 : Int32)) 10 (fun _ q => XS.iloadN X55.here hx rfl (hb hby d3_9) rfl q) ?_
    refine own_tp (.int (3 : Int32)) 11 (fun _ q => XS.iloadN X55.here hx rfl (hb hby d3_10) rfl q) ?_
    refine own_d2 14 (fun _ q => XS.icmpNo X55.here hx rfl (hb hby d3_11) rfl (tlt (by decide : (1 : Int32) < (3 : Int32))).2.1 q) ?_
    refine own_tp (.ref vb51) 15 (fun _ q => XS.aloadN X55.here hx rfl (hb hby d3_14) rfl rfl q) ?_
    refine own_tp (.int (1 : Int32)) 16 (fun _ q => XS.iloadN X55.here hx rfl (hb hby d3_15) rfl q) ?_
    obtain ⟨cl56, Ar56, q56, S56, Nn56, H56, G56⟩ := (id V51)
    have hin56 : ¬ ((1 : Int32) < 0 ∨ cl56.slots.size ≤ ((1 : Int32)).toNatClampNeg) := inb_of S56 ⟨by decide, by decide⟩
    have hat56 : cl56.slots[((1 : Int32)).toNatClampNeg]? = some (.ref a1) := H56.at hin56 rfl
    refine own_t2 (.ref a1) 17 (fun _ q => X55.aaload hx (j := (1 : Int32)) (v := (.ref a1)) (by rw [eq55]; exact Ar56.1) (State.isArrayOf_alike hZ.alike Ar56.2.1) rfl Ar56.2.2 hin56 hat56 (g := (mkF m 16 #[.val .null, .val (.ref vb51), .val (.int (3 : Int32)), .val (.int (1 : Int32)), .val (.ref aa0)] [(.int (1 : Int32)), (.ref vb51)])) rfl rfl (hb hby d3_16) _ q) ?_
    refine own_ls #[.val .null, .val (.ref vb51), .val (.int (3 : Int32)), .val (.int (1 : Int32)), .val (.ref a1)] 19 (fun _ q => XS.astore X55.here hx rfl (hb hby d3_17) rfl rfl (l' := #[.val .null, .val (.ref vb51), .val (.int (3 : Int32)), .val (.int (1 : Int32)), .val (.ref a1)]) rfl q) ?_
    refine own_tp (.ref a1) 21 (fun _ q => XS.aload X55.here hx rfl (hb hby d3_19) rfl rfl q) ?_
    obtain ⟨T57, X57, e57, st57⟩ := getF X55 hx hZ hown (host := "") (Or.inl (hw _ (List.mem_of_getElem? (i := 75) rfl))) Via.refl eq55 (F1.ext O51.2) (g := (mkF m 21 #[.val .null, .val (.ref vb51), .val (.int (3 : Int32)), .val (.int (1 : Int32)), .val (.ref a1)] [(.ref a1)])) rfl rfl (hb hby d3_21)
    refine own_t1 (.ref p1s) 24 st57 ?_
    refine own_tp .null 25 (fun _ q => XS.aloadN X57.here hx rfl (hb hby d3_24) rfl rfl q) ?_
    obtain ⟨cq58, kq58, q58a, q58b, q58c⟩ := isOf hZ e57 (T1s.1.ext O51.2)
    obtain ⟨_, _, ⟨T58, L58, k58, n58⟩, -, X58, ⟨Lc58, hQ58, l58, y58, z58⟩, st58⟩ := X57.virtualBack hx (y := (⟨"java/lang/String", "equals", "(Ljava/lang/Object;)Z"⟩ : MethodName)) (z := (⟨"java/lang/String", "equals", "(Ljava/lang/Object;)Z"⟩ : MethodName)) hown (mvT hZ (hw _ (List.mem_of_getElem? (i := 77) rfl))) (mvT hZ (hw _ (List.mem_of_getElem? (i := 42) rfl))) (notFace_of_selects (args := #[]) (mvT hZ (hw _ (List.mem_of_getElem? (i := 44) rfl)))) (mvT hZ (hw _ (List.mem_of_getElem? (i := 44) rfl))) (mvT hZ (hw _ (List.mem_of_getElem? (i := 43) rfl))) (by decide) (backOf (W := 0) (rm1 l Z a0 hw [] p1s T51.heap n0) hZ (hw _ (List.mem_of_getElem? (i := 45) rfl)) (hw _ (List.mem_of_getElem? (i := 3) rfl)) (by decide) (by decide)) q58a q58c (g := (mkF m 25 #[.val .null, .val (.ref vb51), .val (.int (3 : Int32)), .val (.int (1 : Int32)), .val (.ref a1)] [.null, (.ref p1s)])) rfl (by rw [hml]; rfl) (Steps.refl _) (argsL := [.null]) (rest := []) (lenOf pd3_1 rfl) rfl (by show 2 * 0 + _ ≤ _; exact Nat.le_of_eq rfl) (hb hby d3_25) (fun _ _ => ⟨rfl, e57, (by decide : 1 + 0 ≤ _), (by decide : 3 + 0 ≤ _)⟩)
    dsimp only [Pt.U, Pt.locs, Pt.cells, Pt.slots] at X58 l58 y58 z58 st58 hQ58
    subst l58 y58 z58
    obtain ⟨rfl, Nq58, eq58⟩ := hQ58
    have N58 := Fr.app N55 Nq58
    refine own_csR [(.int (0 : Int32))] 28 st58 ?_
    refine own_d1 34 (fun _ q => XS.ifYes X58.here hx rfl (pc0 := 28) (pc' := 34) rfl (hb hby d3_28) rfl ((if0 _ _).trans (teq (by decide : (0 : Int32) = (0 : Int32))).1) (by decide) (by decide) q) ?_
    refine own_li #[.val .null, .val (.ref vb51), .val (.int (3 : Int32)), .val (.int (2 : Int32)), .val (.ref a1)] 37 (fun _ q => XS.iinc X58.here hx rfl (hb hby d3_34) rfl (l' := #[.val .null, .val (.ref vb51), .val (.int (3 : Int32)), .val (.int (2 : Int32)), .val (.ref a1)]) rfl q) ?_
    refine own_d0 9 (fun _ q => XS.goto X58.here hx rfl (pc0 := 37) (pc' := 9) rfl (hb hby d3_37) (by decide) (by decide) q) ?_
    refine own_tp (.int (2 : Int32)) 10 (fun _ q => XS.iloadN X58.here hx rfl (hb hby d3_9) rfl q) ?_
    refine own_tp (.int (3 : Int32)) 11 (fun _ q => XS.iloadN X58.here hx rfl (hb hby d3_10) rfl q) ?_
    refine own_d2 14 (fun _ q => XS.icmpNo X58.here hx rfl (hb hby d3_11) rfl (tlt (by decide : (2 : Int32) < (3 : Int32))).2.1 q) ?_
    refine own_tp (.ref vb51) 15 (fun _ q => XS.aloadN X58.here hx rfl (hb hby d3_14) rfl rfl q) ?_
    refine own_tp (.int (2 : Int32)) 16 (fun _ q => XS.iloadN X58.here hx rfl (hb hby d3_15) rfl q) ?_
    obtain ⟨cl59, Ar59, q59, S59, Nn59, H59, G59⟩ := (id V51)
    have hin59 : ¬ ((2 : Int32) < 0 ∨ cl59.slots.size ≤ ((2 : Int32)).toNatClampNeg) := inb_of S59 ⟨by decide, by decide⟩
    have hat59 : cl59.slots[((2 : Int32)).toNatClampNeg]? = some (.ref a2) := H59.at hin59 rfl
    refine own_t2 (.ref a2) 17 (fun _ q => X58.aaload hx (j := (2 : Int32)) (v := (.ref a2)) (by rw [eq58]; exact Ar59.1) (State.isArrayOf_alike hZ.alike Ar59.2.1) rfl Ar59.2.2 hin59 hat59 (g := (mkF m 16 #[.val .null, .val (.ref vb51), .val (.int (3 : Int32)), .val (.int (2 : Int32)), .val (.ref a1)] [(.int (2 : Int32)), (.ref vb51)])) rfl rfl (hb hby d3_16) _ q) ?_
    refine own_ls #[.val .null, .val (.ref vb51), .val (.int (3 : Int32)), .val (.int (2 : Int32)), .val (.ref a2)] 19 (fun _ q => XS.astore X58.here hx rfl (hb hby d3_17) rfl rfl (l' := #[.val .null, .val (.ref vb51), .val (.int (3 : Int32)), .val (.int (2 : Int32)), .val (.ref a2)]) rfl q) ?_
    refine own_tp (.ref a2) 21 (fun _ q => XS.aload X58.here hx rfl (hb hby d3_19) rfl rfl q) ?_
    obtain ⟨T60, X60, e60, st60⟩ := getF X58 hx hZ hown (host := "") (Or.inl (hw _ (List.mem_of_getElem? (i := 75) rfl))) Via.refl eq58 (F2.ext O51.2) (g := (mkF m 21 #[.val .null, .val (.ref vb51), .val (.int (3 : Int32)), .val (.int (2 : Int32)), .val (.ref a2)] [(.ref a2)])) rfl rfl (hb hby d3_21)
    refine own_t1 (.ref p2s) 24 st60 ?_
    refine own_tp .null 25 (fun _ q => XS.aloadN X60.here hx rfl (hb hby d3_24) rfl rfl q) ?_
    obtain ⟨cq61, kq61, q61a, q61b, q61c⟩ := isOf hZ e60 (T2s.1.ext O51.2)
    obtain ⟨_, _, ⟨T61, L61, k61, n61⟩, -, X61, ⟨Lc61, hQ61, l61, y61, z61⟩, st61⟩ := X60.virtualBack hx (y := (⟨"java/lang/String", "equals", "(Ljava/lang/Object;)Z"⟩ : MethodName)) (z := (⟨"java/lang/String", "equals", "(Ljava/lang/Object;)Z"⟩ : MethodName)) hown (mvT hZ (hw _ (List.mem_of_getElem? (i := 77) rfl))) (mvT hZ (hw _ (List.mem_of_getElem? (i := 42) rfl))) (notFace_of_selects (args := #[]) (mvT hZ (hw _ (List.mem_of_getElem? (i := 44) rfl)))) (mvT hZ (hw _ (List.mem_of_getElem? (i := 44) rfl))) (mvT hZ (hw _ (List.mem_of_getElem? (i := 43) rfl))) (by decide) (backOf (W := 0) (rm1 l Z a0 hw [] p2s T51.heap n0) hZ (hw _ (List.mem_of_getElem? (i := 45) rfl)) (hw _ (List.mem_of_getElem? (i := 3) rfl)) (by decide) (by decide)) q61a q61c (g := (mkF m 25 #[.val .null, .val (.ref vb51), .val (.int (3 : Int32)), .val (.int (2 : Int32)), .val (.ref a2)] [.null, (.ref p2s)])) rfl (by rw [hml]; rfl) (Steps.refl _) (argsL := [.null]) (rest := []) (lenOf pd3_1 rfl) rfl (by show 2 * 0 + _ ≤ _; exact Nat.le_of_eq rfl) (hb hby d3_25) (fun _ _ => ⟨rfl, e60, (by decide : 1 + 0 ≤ _), (by decide : 3 + 0 ≤ _)⟩)
    dsimp only [Pt.U, Pt.locs, Pt.cells, Pt.slots] at X61 l61 y61 z61 st61 hQ61
    subst l61 y61 z61
    obtain ⟨rfl, Nq61, eq61⟩ := hQ61
    have N61 := Fr.app N58 Nq61
    refine own_csR [(.int (0 : Int32))] 28 st61 ?_
    refine own_d1 34 (fun _ q => XS.ifYes X61.here hx rfl (pc0 := 28) (pc' := 34) rfl (hb hby d3_28) rfl ((if0 _ _).trans (teq (by decide : (0 : Int32) = (0 : Int32))).1) (by decide) (by decide) q) ?_
    refine own_li #[.val .null, .val (.ref vb51), .val (.int (3 : Int32)), .val (.int (3 : Int32)), .val (.ref a2)] 37 (fun _ q => XS.iinc X61.here hx rfl (hb hby d3_34) rfl (l' := #[.val .null, .val (.ref vb51), .val (.int (3 : Int32)), .val (.int (3 : Int32)), .val (.ref a2)]) rfl q) ?_
    refine own_d0 9 (fun _ q => XS.goto X61.here hx rfl (pc0 := 37) (pc' := 9) rfl (hb hby d3_37) (by decide) (by decide) q) ?_
    refine own_tp (.int (3 : Int32)) 10 (fun _ q => XS.iloadN X61.here hx rfl (hb hby d3_9) rfl q) ?_
    refine own_tp (.int (3 : Int32)) 11 (fun _ q => XS.iloadN X61.here hx rfl (hb hby d3_10) rfl q) ?_
    refine own_d2 40 (fun _ q => XS.icmpYes X61.here hx rfl (pc0 := 11) (pc' := 40) rfl (hb hby d3_11) rfl (flt (by decide : ¬ ((3 : Int32) < (3 : Int32)))).2.1 (by decide) (by decide) q) ?_
    refine own_tp .null 41 (fun _ q => XS.aconstNull X61.here hx rfl (hb hby d3_40) q) ?_
    exact own_retR X61 hx hrt (hb hby d3_41) rfl rfl hlk (by decide) (by decide) eq61 (⟨by rfl, N61, Ex51⟩)
  ·
    have heq : ∀ d ∈ StrChars.Road.wordsEq, d.before a0 Z = true := fun d hd => hw d ((by decide +kernel : ∀ d ∈ StrChars.Road.wordsEq, d ∈ tables_1) d hd)
    obtain ⟨_, _, ⟨T62, L62, k62, n62⟩, -, X62, ⟨Lc62, hQ62, l62, y62, z62⟩, st62⟩ := Jvm.LawKit.callS X0 hx (y := (⟨"com/example/leastwise/leastwise/core/AuthorizableType", "values", "()[Lcom/example/leastwise/leastwise/core/AuthorizableType;"⟩ : MethodName)) hown (mvT hZ (hw _ (List.mem_of_getElem? (i := 57) rfl))) (mvT hZ (hw _ (List.mem_of_getElem? (i := 58) rfl))) (mvT hZ (hw _ (List.mem_of_getElem? (i := 55) rfl))) (mvT hZ (hw _ (List.mem_of_getElem? (i := 59) rfl))) (by decide) (backOf (W := 0) (rm2 l Z a0 hw [] h0 n0 Z0 G1 P5 O0 Sc aa0 p0s v0s k0s S0 E0 F0 T0s a1 p1s v1s k1s S1 E1 F1 T1s a2 p2s v2s k2s S2 E2 F2 T2s av kv Sv Ev Vv) hZ (hw _ (List.mem_of_getElem? (i := 59) rfl)) (hw _ (List.mem_of_getElem? (i := 55) rfl)) (by decide) (by decide)) (g := (mkF m 0 #[.val (.ref sa), .unset, .unset, .unset, .unset] [])) rfl (by rw [hml]; rfl) (argsL := []) (rest := []) (lenOf pd3_0 rfl) rfl (by show 2 * 0 + _ ≤ _; exact Nat.le_of_eq rfl) (hb hby d3_0) (fun _ _ => ⟨rfl, e0, (by decide : 0 + 1 ≤ _), (by decide : 0 + 3 ≤ _)⟩)
    dsimp only [Pt.U, Pt.locs, Pt.cells, Pt.slots] at X62 l62 y62 z62 st62 hQ62
    subst l62 y62 z62
    obtain ⟨vb62, rfl, Nq62, Ex62, V62⟩ := hQ62
    have N62 := Fr.app N0 Nq62
    have O62 := Old.ext O0 Ex62
    have Z62 : n0 ≤ T62.heap.size := Nat.le_trans Z0 Ex62.1
    refine own_tp (.ref vb62) 3 st62 ?_
    refine own_ls #[.val (.ref sa), .val (.ref vb62), .unset, .unset, .unset] 4 (fun _ q => XS.astoreN X62.here hx rfl (hb hby d3_3) rfl rfl (l' := #[.val (.ref sa), .val (.ref vb62), .unset, .unset, .unset]) rfl q) ?_
    refine own_tp (.ref vb62) 5 (fun _ q => XS.aloadN X62.here hx rfl (hb hby d3_4) rfl rfl q) ?_
    obtain ⟨cl63, Ar63, -, Sz63, Nn63, -, -⟩ := (id V62)
    refine own_t1 (.int (3 : Int32)) 6 (fun t q => X62.arraylength hx Ar63.1 (State.isArrayOf_alike hZ.alike Ar63.2.1) (g := (mkF m 5 #[.val (.ref sa), .val (.ref vb62), .unset, .unset, .unset] [(.ref vb62)])) rfl rfl (hb hby d3_5) _ (by rw [len_of Sz63 Nn63]; exact q)) ?_
    refine own_ls #[.val (.ref sa), .val (.ref vb62), .val (.int (3 : Int32)), .unset, .unset] 7 (fun _ q => XS.istoreN X62.here hx rfl (hb hby d3_6) rfl (l' := #[.val (.ref sa), .val (.ref vb62), .val (.int (3 : Int32)), .unset, .unset]) rfl q) ?_
    refine own_tp (.int (0 : Int32)) 8 (fun _ q => XS.iconst X62.here hx rfl (hb hby d3_7) q) ?_
    refine own_ls #[.val (.ref sa), .val (.ref vb62), .val (.int (3 : Int32)), .val (.int (0 : Int32)), .unset] 9 (fun _ q => XS.istoreN X62.here hx rfl (hb hby d3_8) rfl (l' := #[.val (.ref sa), .val (.ref vb62), .val (.int (3 : Int32)), .val (.int (0 : Int32)), .unset]) rfl q) ?_
    refine own_tp (.int (0 : Int32)) 10 (fun _ q => XS.iloadN X62.here hx rfl (hb hby d3_9) rfl q) ?_
    refine own_tp (.int (3 : Int32)) 11 (fun _ q => XS.iloadN X62.here hx rfl (hb hby d3_10) rfl q) ?_
    refine own_d2 14 (fun _ q => XS.icmpNo X62.here hx rfl (hb hby d3_11) rfl (tlt (by decide : (0 : Int32) < (3 : Int32))).2.1 q) ?_
    refine own_tp (.ref vb62) 15 (fun _ q => XS.aloadN X62.here hx rfl (hb hby d3_14) rfl rfl q) ?_
    refine own_tp (.int (0 : Int32)) 16 (fun _ q => XS.iloadN X62.here hx rfl (hb hby d3_15) rfl q) ?_
    obtain ⟨cl64, Ar64, q64, S64, Nn64, H64, G64⟩ := (id V62)
    have hin64 : ¬ ((0 : Int32) < 0 ∨ cl64.slots.size ≤ ((0 : Int32)).toNatClampNeg) := inb_of S64 ⟨by decide, by decide⟩
    have hat64 : cl64.slots[((0 : Int32)).toNatClampNeg]? = some (.ref aa0) := H64.at hin64 rfl
    refine own_t2 (.ref aa0) 17 (fun _ q => X62.aaload hx (j := (0 : Int32)) (v := (.ref aa0)) Ar64.1 (State.isArrayOf_alike hZ.alike Ar64.2.1) rfl Ar64.2.2 hin64 hat64 (g := (mkF m 16 #[.val (.ref sa), .val (.ref vb62), .val (.int (3 : Int32)), .val (.int (0 : Int32)), .unset] [(.int (0 : Int32)), (.ref vb62)])) rfl rfl (hb hby d3_16) _ q) ?_
    refine own_ls #[.val (.ref sa), .val (.ref vb62), .val (.int (3 : Int32)), .val (.int (0 : Int32)), .val (.ref aa0)] 19 (fun _ q => XS.astore X62.here hx rfl (hb hby d3_17) rfl rfl (l' := #[.val (.ref sa), .val (.ref vb62), .val (.int (3 : Int32)), .val (.int (0 : Int32)), .val (.ref aa0)]) rfl q) ?_
    refine own_tp (.ref aa0) 21 (fun _ q => XS.aload X62.here hx rfl (hb hby d3_19) rfl rfl q) ?_
    obtain ⟨T65, X65, e65, st65⟩ := getF X62 hx hZ hown (host := "") (Or.inl (hw _ (List.mem_of_getElem? (i := 75) rfl))) Via.refl rfl (F0.ext O62.2) (g := (mkF m 21 #[.val (.ref sa), .val (.ref vb62), .val (.int (3 : Int32)), .val (.int (0 : Int32)), .val (.ref aa0)] [(.ref aa0)])) rfl rfl (hb hby d3_21)
    refine own_t1 (.ref p0s) 24 st65 ?_
    refine own_tp (.ref sa) 25 (fun _ q => XS.aloadN X65.here hx rfl (hb hby d3_24) rfl rfl q) ?_
    have f67 := (hst.ext Ex62)
    have sa66 := (T0s.ext O62.2)
    have sb66 := f67
    obtain ⟨cq68, kq68, q68a, q68b, q68c⟩ := isOf hZ e65 (T0s.1.ext O62.2)
    obtain ⟨_, _, ⟨T68, L68, k68, n68⟩, -, X68, ⟨Lc68, hQ68, l68, y68, z68⟩, st68⟩ := X65.virtualBack hx (y := (⟨"java/lang/String", "equals", "(Ljava/lang/Object;)Z"⟩ : MethodName)) (z := (⟨"java/lang/String", "equals", "(Ljava/lang/Object;)Z"⟩ : MethodName)) hown (mvT hZ (hw _ (List.mem_of_getElem? (i := 77) rfl))) (mvT hZ (hw _ (List.mem_of_getElem? (i := 42) rfl))) (notFace_of_selects (args := #[]) (mvT hZ (hw _ (List.mem_of_getElem? (i := 44) rfl)))) (mvT hZ (hw _ (List.mem_of_getElem? (i := 44) rfl))) (mvT hZ (hw _ (List.mem_of_getElem? (i := 43) rfl))) (by decide) (StrChars.Road.eqW (W := 0) hZ heq (kI := 4) (hw _ (List.mem_of_getElem? (i := 2) rfl)) sa66.1 sa66.2.1 sa66.2.2.1 sa66.2.2.2.1 (StrChars.Road.codOf (cs := [(114 : Int32), (101 : Int32), (112 : Int32), (58 : Int32), (83 : Int32), (121 : Int32), (115 : Int32), (116 : Int32), (101 : Int32), (109 : Int32), (85 : Int32), (115 : Int32), (101 : Int32), (114 : Int32)]) rfl (fun x hx => (sa66.2.2.2.2.1 x hx).2)) (own_upl _ sa66.2.2.2.2.1) sa66.2.2.2.2.2 sb66.1 sb66.2.1 sb66.2.2.1 sb66.2.2.2.1 (StrChars.Road.codOf (cs := cs) rfl (fun x hx => (sb66.2.2.2.2.1 x hx).2)) (own_upl _ sb66.2.2.2.2.1) sb66.2.2.2.2.2 (Sc.ext O62.2) P5 (by decide) (by decide)) q68a q68c (g := (mkF m 25 #[.val (.ref sa), .val (.ref vb62), .val (.int (3 : Int32)), .val (.int (0 : Int32)), .val (.ref aa0)] [(.ref sa), (.ref p0s)])) rfl (by rw [hml]; rfl) (Steps.refl _) (argsL := [(.ref sa)]) (rest := []) (lenOf pd3_1 rfl) rfl (by show 2 * 0 + _ ≤ _; exact Nat.le_of_eq rfl) (hb hby d3_25) (fun _ _ => ⟨rfl, e65, (by decide : 1 + 0 ≤ _), (by decide : 3 + 0 ≤ _)⟩)
    dsimp only [Pt.U, Pt.locs, Pt.cells, Pt.slots] at X68 l68 y68 z68 st68 hQ68
    subst l68 y68 z68
    obtain ⟨hv68, rfl, eq68⟩ := hQ68
    have N68 := Fr.app N62 (Fr.nil n0)
    rcases hv68 with ⟨rfl, hq68⟩ | ⟨rfl, hq68⟩
    ·
      refine own_csR [(.int (1 : Int32))] 28 st68 ?_
      refine own_d1 31 (fun _ q => XS.ifNo X68.here hx rfl (hb hby d3_28) rfl ((if0 _ _).trans (feq (by decide : ¬ ((1 : Int32) = (0 : Int32)))).1) q) ?_
      refine own_tp (.ref aa0) 33 (fun _ q => XS.aload X68.here hx rfl (hb hby d3_31) rfl rfl q) ?_
      exact own_retR X68 hx hrt (hb hby d3_33) rfl rfl hlk (by decide) (by decide) eq68 (⟨by simp [own_ref, hq68.symm], N68, Ex62⟩)
    ·
      refine own_csR [(.int (0 : Int32))] 28 st68 ?_
      refine own_d1 34 (fun _ q => XS.ifYes X68.here hx rfl (pc0 := 28) (pc' := 34) rfl (hb hby d3_28) rfl ((if0 _ _).trans (teq (by decide : (0 : Int32) = (0 : Int32))).1) (by decide) (by decide) q) ?_
      refine own_li #[.val (.ref sa), .val (.ref vb62), .val (.int (3 : Int32)), .val (.int (1 : Int32)), .val (.ref aa0)] 37 (fun _ q => XS.iinc X68.here hx rfl (hb hby d3_34) rfl (l' := #[.val (.ref sa), .val (.ref vb62), .val (.int (3 : Int32)), .val (.int (1 : Int32)), .val (.ref aa0)]) rfl q) ?_
      refine own_d0 9 (fun _ q => XS.goto X68.here hx rfl (pc0 := 37) (pc' := 9) rfl (hb hby d3_37) (by decide) (by decide) q) ?_
      refine own_tp (.int (1 : Int32)) 10 (fun _ q => XS.iloadN X68.here hx rfl (hb hby d3_9) rfl q) ?_
      refine own_tp (.int (3 : Int32)) 11 (fun _ q => XS.iloadN X68.here hx rfl (hb hby d3_10) rfl q) ?_
      refine own_d2 14 (fun _ q => XS.icmpNo X68.here hx rfl (hb hby d3_11) rfl (tlt (by decide : (1 : Int32) < (3 : Int32))).2.1 q) ?_
      refine own_tp (.ref vb62) 15 (fun _ q => XS.aloadN X68.here hx rfl (hb hby d3_14) rfl rfl q) ?_
      refine own_tp (.int (1 : Int32)) 16 (fun _ q => XS.iloadN X68.here hx rfl (hb hby d3_15) rfl q) ?_
      obtain ⟨cl69, Ar69, q69, S69, Nn69, H69, G69⟩ := (id V62)
      have hin69 : ¬ ((1 : Int32) < 0 ∨ cl69.slots.size ≤ ((1 : Int32)).toNatClampNeg) := inb_of S69 ⟨by decide, by decide⟩
      have hat69 : cl69.slots[((1 : Int32)).toNatClampNeg]? = some (.ref a1) := H69.at hin69 rfl
      refine own_t2 (.ref a1) 17 (fun _ q => X68.aaload hx (j := (1 : Int32)) (v := (.ref a1)) (by rw [eq68]; exact Ar69.1) (State.isArrayOf_alike hZ.alike Ar69.2.1) rfl Ar69.2.2 hin69 hat69 (g := (mkF m 16 #[.val (.ref sa), .val (.ref vb62), .val (.int (3 : Int32)), .val (.int (1 : Int32)), .val (.ref aa0)] [(.int (1 : Int32)), (.ref vb62)])) rfl rfl (hb hby d3_16) _ q) ?_
      refine own_ls #[.val (.ref sa), .val (.ref vb62), .val (.int (3 : Int32)), .val (.int (1 : Int32)), .val (.ref a1)] 19 (fun _ q => XS.astore X68.here hx rfl (hb hby d3_17) rfl rfl (l' := #[.val (.ref sa), .val (.ref vb62), .val (.int (3 : Int32)), .val (.int (1 : Int32)), .val (.ref a1)]) rfl q) ?_
      refine own_tp (.ref a1) 21 (fun _ q => XS.aload X68.here hx rfl (hb hby d3_19) rfl rfl q) ?_
      obtain ⟨T70, X70, e70, st70⟩ := getF X68 hx hZ hown (host := "") (Or.inl (hw _ (List.mem_of_getElem? (i := 75) rfl))) Via.refl eq68 (F1.ext O62.2) (g := (mkF m 21 #[.val (.ref sa), .val (.ref vb62), .val (.int (3 : Int32)), .val (.int (1 : Int32)), .val (.ref a1)] [(.ref a1)])) rfl rfl (hb hby d3_21)
      refine own_t1 (.ref p1s) 24 st70 ?_
      refine own_tp (.ref sa) 25 (fun _ q => XS.aloadN X70.here hx rfl (hb hby d3_24) rfl rfl q) ?_
      have sa71 := (T1s.ext O62.2)
      have sb71 := f67
      obtain ⟨cq72, kq72, q72a, q72b, q72c⟩ := isOf hZ e70 (T1s.1.ext O62.2)
      obtain ⟨_, _, ⟨T72, L72, k72, n72⟩, -, X72, ⟨Lc72, hQ72, l72, y72, z72⟩, st72⟩ := X70.virtualBack hx (y := (⟨"java/lang/String", "equals", "(Ljava/lang/Object;)Z"⟩ : MethodName)) (z := (⟨"java/lang/String", "equals", "(Ljava/lang/Object;)Z"⟩ : MethodName)) hown (mvT hZ (hw _ (List.mem_of_getElem? (i := 77) rfl))) (mvT hZ (hw _ (List.mem_of_getElem? (i := 42) rfl))) (notFace_of_selects (args := #[]) (mvT hZ (hw _ (List.mem_of_getElem? (i := 44) rfl)))) (mvT hZ (hw _ (List.mem_of_getElem? (i := 44) rfl))) (mvT hZ (hw _ (List.mem_of_getElem? (i := 43) rfl))) (by decide) (StrChars.Road.eqW (W := 0) hZ heq (kI := 4) (hw _ (List.mem_of_getElem? (i := 2) rfl)) sa71.1 sa71.2.1 sa71.2.2.1 sa71.2.2.2.1 (StrChars.Road.codOf (cs := [(114 : Int32), (101 : Int32), (112 : Int32), (58 : Int32), (85 : Int32), (115 : Int32), (101 : Int32), (114 : Int32)]) rfl (fun x hx => (sa71.2.2.2.2.1 x hx).2)) (own_upl _ sa71.2.2.2.2.1) sa71.2.2.2.2.2 sb71.1 sb71.2.1 sb71.2.2.1 sb71.2.2.2.1 (StrChars.Road.codOf (cs := cs) rfl (fun x hx => (sb71.2.2.2.2.1 x hx).2)) (own_upl _ sb71.2.2.2.2.1) sb71.2.2.2.2.2 (Sc.ext O62.2) P5 (by decide) (by decide)) q72a q72c (g := (mkF m 25 #[.val (.ref sa), .val (.ref vb62), .val (.int (3 : Int32)), .val (.int (1 : Int32)), .val (.ref a1)] [(.ref sa), (.ref p1s)])) rfl (by rw [hml]; rfl) (Steps.refl _) (argsL := [(.ref sa)]) (rest := []) (lenOf pd3_1 rfl) rfl (by show 2 * 0 + _ ≤ _; exact Nat.le_of_eq rfl) (hb hby d3_25) (fun _ _ => ⟨rfl, e70, (by decide : 1 + 0 ≤ _), (by decide : 3 + 0 ≤ _)⟩)
      dsimp only [Pt.U, Pt.locs, Pt.cells, Pt.slots] at X72 l72 y72 z72 st72 hQ72
      subst l72 y72 z72
      obtain ⟨hv72, rfl, eq72⟩ := hQ72
      have N72 := Fr.app N68 (Fr.nil n0)
      rcases hv72 with ⟨rfl, hq72⟩ | ⟨rfl, hq72⟩
      ·
        refine own_csR [(.int (1 : Int32))] 28 st72 ?_
        refine own_d1 31 (fun _ q => XS.ifNo X72.here hx rfl (hb hby d3_28) rfl ((if0 _ _).trans (feq (by decide : ¬ ((1 : Int32) = (0 : Int32)))).1) q) ?_
        refine own_tp (.ref a1) 33 (fun _ q => XS.aload X72.here hx rfl (hb hby d3_31) rfl rfl q) ?_
        exact own_retR X72 hx hrt (hb hby d3_33) rfl rfl hlk (by decide) (by decide) eq72 (⟨by simp [own_ref, hq68, Ne.symm hq68, hq72.symm], N72, Ex62⟩)
      ·
        refine own_csR [(.int (0 : Int32))] 28 st72 ?_
        refine own_d1 34 (fun _ q => XS.ifYes X72.here hx rfl (pc0 := 28) (pc' := 34) rfl (hb hby d3_28) rfl ((if0 _ _).trans (teq (by decide : (0 : Int32) = (0 : Int32))).1) (by decide) (by decide) q) ?_
        refine own_li #[.val (.ref sa), .val (.ref vb62), .val (.int (3 : Int32)), .val (.int (2 : Int32)), .val (.ref a1)] 37 (fun _ q => XS.iinc X72.here hx rfl (hb hby d3_34) rfl (l' := #[.val (.ref sa), .val (.ref vb62), .val (.int (3 : Int32)), .val (.int (2 : Int32)), .val (.ref a1)]) rfl q) ?_
        refine own_d0 9 (fun _ q => XS.goto X72.here hx rfl (pc0 := 37) (pc' := 9) rfl (hb hby d3_37) (by decide) (by decide) q) ?_
        refine own_tp (.int (2 : Int32)) 10 (fun _ q => XS.iloadN X72.here hx rfl (hb hby d3_9) rfl q) ?_
        refine own_tp (.int (3 : Int32)) 11 (fun _ q => XS.iloadN X72.here hx rfl (hb hby d3_10) rfl q) ?_
        refine own_d2 14 (fun _ q => XS.icmpNo X72.here hx rfl (hb hby d3_11) rfl (tlt (by decide : (2 : Int32) < (3 : Int32))).2.1 q) ?_
        refine own_tp (.ref vb62) 15 (fun _ q => XS.aloadN X72.here hx rfl (hb hby d3_14) rfl rfl q) ?_
        refine own_tp (.int (2 : Int32)) 16 (fun _ q => XS.iloadN X72.here hx rfl (hb hby d3_15) rfl q) ?_
        obtain ⟨cl73, Ar73, q73, S73, Nn73, H73, G73⟩ := (id V62)
        have hin73 : ¬ ((2 : Int32) < 0 ∨ cl73.slots.size ≤ ((2 : Int32)).toNatClampNeg) := inb_of S73 ⟨by decide, by decide⟩
        have hat73 : cl73.slots[((2 : Int32)).toNatClampNeg]? = some (.ref a2) := H73.at hin73 rfl
        refine own_t2 (.ref a2) 17 (fun _ q => X72.aaload hx (j := (2 : Int32)) (v := (.ref a2)) (by rw [eq72]; exact Ar73.1) (State.isArrayOf_alike hZ.alike Ar73.2.1) rfl Ar73.2.2 hin73 hat73 (g := (mkF m 16 #[.val (.ref sa), .val (.ref vb62), .val (.int (3 : Int32)), .val (.int (2 : Int32)), .val (.ref a1)] [(.int (2 : Int32)), (.ref vb62)])) rfl rfl (hb hby d3_16) _ q) ?_
        refine own_ls #[.val (.ref sa), .val (.ref vb62), .val (.int (3 : Int32)), .val (.int (2 : Int32)), .val (.ref a2)] 19 (fun _ q => XS.astore X72.here hx rfl (hb hby d3_17) rfl rfl (l' := #[.val (.ref sa), .val (.ref vb62), .val (.int (3 : Int32)), .val (.int (2 : Int32)), .val (.ref a2)]) rfl q) ?_
        refine own_tp (.ref a2) 21 (fun _ q => XS.aload X72.here hx rfl (hb hby d3_19) rfl rfl q) ?_
        obtain ⟨T74, X74, e74, st74⟩ := getF X72 hx hZ hown (host := "") (Or.inl (hw _ (List.mem_of_getElem? (i := 75) rfl))) Via.refl eq72 (F2.ext O62.2) (g := (mkF m 21 #[.val (.ref sa), .val (.ref vb62), .val (.int (3 : Int32)), .val (.int (2 : Int32)), .val (.ref a2)] [(.ref a2)])) rfl rfl (hb hby d3_21)
        refine own_t1 (.ref p2s) 24 st74 ?_
        refine own_tp (.ref sa) 25 (fun _ q => XS.aloadN X74.here hx rfl (hb hby d3_24) rfl rfl q) ?_
        have sa75 := (T2s.ext O62.2)
        have sb75 := f67
        obtain ⟨cq76, kq76, q76a, q76b, q76c⟩ := isOf hZ e74 (T2s.1.ext O62.2)
        obtain ⟨_, _, ⟨T76, L76, k76, n76⟩, -, X76, ⟨Lc76, hQ76, l76, y76, z76⟩, st76⟩ := X74.virtualBack hx (y := (⟨"java/lang/String", "equals", "(Ljava/lang/Object;)Z"⟩ : MethodName)) (z := (⟨"java/lang/String", "equals", "(Ljava/lang/Object;)Z"⟩ : MethodName)) hown (mvT hZ (hw _ (List.mem_of_getElem? (i := 77) rfl))) (mvT hZ (hw _ (List.mem_of_getElem? (i := 42) rfl))) (notFace_of_selects (args := #[]) (mvT hZ (hw _ (List.mem_of_getElem? (i := 44) rfl)))) (mvT hZ (hw _ (List.mem_of_getElem? (i := 44) rfl))) (mvT hZ (hw _ (List.mem_of_getElem? (i := 43) rfl))) (by decide) (StrChars.Road.eqW (W := 0) hZ heq (kI := 4) (hw _ (List.mem_of_getElem? (i := 2) rfl)) sa75.1 sa75.2.1 sa75.2.2.1 sa75.2.2.2.1 (StrChars.Road.codOf (cs := [(114 : Int32), (101 : Int32), (112 : Int32), (58 : Int32), (71 : Int32), (114 : Int32), (111 : Int32), (117 : Int32), (112 : Int32)]) rfl (fun x hx => (sa75.2.2.2.2.1 x hx).2)) (own_upl _ sa75.2.2.2.2.1) sa75.2.2.2.2.2 sb75.1 sb75.2.1 sb75.2.2.1 sb75.2.2.2.1 (StrChars.Road.codOf (cs := cs) rfl (fun x hx => (sb75.2.2.2.2.1 x hx).2)) (own_upl _ sb75.2.2.2.2.1) sb75.2.2.2.2.2 (Sc.ext O62.2) P5 (by decide) (by decide)) q76a q76c (g := (mkF m 25 #[.val (.ref sa), .val (.ref vb62), .val (.int (3 : Int32)), .val (.int (2 : Int32)), .val (.ref a2)] [(.ref sa), (.ref p2s)])) rfl (by rw [hml]; rfl) (Steps.refl _) (argsL := [(.ref sa)]) (rest := []) (lenOf pd3_1 rfl) rfl (by show 2 * 0 + _ ≤ _; exact Nat.le_of_eq rfl) (hb hby d3_25) (fun _ _ => ⟨rfl, e74, (by decide : 1 + 0 ≤ _), (by decide : 3 + 0 ≤ _)⟩)
        dsimp only [Pt.U, Pt.locs, Pt.cells, Pt.slots] at X76 l76 y76 z76 st76 hQ76
        subst l76 y76 z76
        obtain ⟨hv76, rfl, eq76⟩ := hQ76
        have N76 := Fr.app N72 (Fr.nil n0)
        rcases hv76 with ⟨rfl, hq76⟩ | ⟨rfl, hq76⟩
        ·
          refine own_csR [(.int (1 : Int32))] 28 st76 ?_
          refine own_d1 31 (fun _ q => XS.ifNo X76.here hx rfl (hb hby d3_28) rfl ((if0 _ _).trans (feq (by decide : ¬ ((1 : Int32) = (0 : Int32)))).1) q) ?_
          refine own_tp (.ref a2) 33 (fun _ q => XS.aload X76.here hx rfl (hb hby d3_31) rfl rfl q) ?_
          exact own_retR X76 hx hrt (hb hby d3_33) rfl rfl hlk (by decide) (by decide) eq76 (⟨by simp [own_ref, hq68, Ne.symm hq68, hq72, Ne.symm hq72, hq76.symm], N76, Ex62⟩)
        ·
          refine own_csR [(.int (0 : Int32))] 28 st76 ?_
          refine own_d1 34 (fun _ q => XS.ifYes X76.here hx rfl (pc0 := 28) (pc' := 34) rfl (hb hby d3_28) rfl ((if0 _ _).trans (teq (by decide : (0 : Int32) = (0 : Int32))).1) (by decide) (by decide) q) ?_
          refine own_li #[.val (.ref sa), .val (.ref vb62), .val (.int (3 : Int32)), .val (.int (3 : Int32)), .val (.ref a2)] 37 (fun _ q => XS.iinc X76.here hx rfl (hb hby d3_34) rfl (l' := #[.val (.ref sa), .val (.ref vb62), .val (.int (3 : Int32)), .val (.int (3 : Int32)), .val (.ref a2)]) rfl q) ?_
          refine own_d0 9 (fun _ q => XS.goto X76.here hx rfl (pc0 := 37) (pc' := 9) rfl (hb hby d3_37) (by decide) (by decide) q) ?_
          refine own_tp (.int (3 : Int32)) 10 (fun _ q => XS.iloadN X76.here hx rfl (hb hby d3_9) rfl q) ?_
          refine own_tp (.int (3 : Int32)) 11 (fun _ q => XS.iloadN X76.here hx rfl (hb hby d3_10) rfl q) ?_
          refine own_d2 40 (fun _ q => XS.icmpYes X76.here hx rfl (pc0 := 11) (pc' := 40) rfl (hb hby d3_11) rfl (flt (by decide : ¬ ((3 : Int32) < (3 : Int32)))).2.1 (by decide) (by decide) q) ?_
          refine own_tp .null 41 (fun _ q => XS.aconstNull X76.here hx rfl (hb hby d3_40) q) ?_
          exact own_retR X76 hx hrt (hb hby d3_41) rfl rfl hlk (by decide) (by decide) eq76 (⟨by simp [own_ref, hq68, Ne.symm hq68, hq72, Ne.symm hq72, hq76, Ne.symm hq76], N76, Ex62⟩)

def Q4 (oc : Option (List Int32)) (aa0 a1 a2 : Addr) (h0 : Heap) (n0 : Nat) (v : Option Value) (h : Heap) (L : List Loc) : Prop := v = some (own_ref oc aa0 a1 a2) ∧ Fr n0 L ∧ Ext h0 h

theorem d4_0 : decode method_3_code 0 = .ok (.aload_n 0, 1) := by decide +kernel
theorem d4_1 : decode method_3_code 1 = .ok (.ifnonnull 5, 3) := by decide +kernel
theorem d4_4 : decode method_3_code 4 = .ok (.aconst_null, 1) := by decide +kernel
theorem d4_5 : decode method_3_code 5 = .ok (.areturn, 1) := by decide +kernel
theorem d4_6 : decode method_3_code 6 = .ok (.aload_n 0, 1) := by decide +kernel
theorem d4_7 : decode method_3_code 7 = .ok (.ldc 42, 2) := by decide +kernel
theorem d4_9 : decode method_3_code 9 = .ok (.invokevirtual 44, 3) := by decide +kernel
theorem d4_12 : decode method_3_code 12 = .ok (.ifCond .eq 7, 3) := by decide +kernel
theorem d4_15 : decode method_3_code 15 = .ok (.getstatic 48, 3) := by decide +kernel
theorem d4_18 : decode method_3_code 18 = .ok (.areturn, 1) := by decide +kernel
theorem d4_19 : decode method_3_code 19 = .ok (.aload_n 0, 1) := by decide +kernel
theorem d4_20 : decode method_3_code 20 = .ok (.ldc 52, 2) := by decide +kernel
theorem d4_22 : decode method_3_code 22 = .ok (.invokevirtual 44, 3) := by decide +kernel
theorem d4_25 : decode method_3_code 25 = .ok (.ifCond .eq 7, 3) := by decide +kernel
theorem d4_28 : decode method_3_code 28 = .ok (.getstatic 54, 3) := by decide +kernel
theorem d4_31 : decode method_3_code 31 = .ok (.areturn, 1) := by decide +kernel
theorem d4_32 : decode method_3_code 32 = .ok (.aload_n 0, 1) := by decide +kernel
theorem d4_33 : decode method_3_code 33 = .ok (.ldc 57, 2) := by decide +kernel
theorem d4_35 : decode method_3_code 35 = .ok (.invokevirtual 44, 3) := by decide +kernel
theorem d4_38 : decode method_3_code 38 = .ok (.ifCond .eq 7, 3) := by decide +kernel
theorem d4_41 : decode method_3_code 41 = .ok (.getstatic 59, 3) := by decide +kernel
theorem d4_44 : decode method_3_code 44 = .ok (.areturn, 1) := by decide +kernel
theorem d4_45 : decode method_3_code 45 = .ok (.aconst_null, 1) := by decide +kernel
theorem d4_46 : decode method_3_code 46 = .ok (.areturn, 1) := by decide +kernel
theorem pn4 : plainName "com/example/leastwise/leastwise/core/AuthorizableTypeOfPinLaw" = true := by first | (simp [plainName, overriddenIn]; done) | decide +kernel
theorem pd4_0 : parseMethodDescriptor "(Ljava/lang/Object;)Z" = some ⟨[(.object "java/lang/Object")], some .boolean⟩ := by decide +kernel
theorem ef4 (m : MethodId) (x0 : Value) (hx0 : x0.isRef = true) : entryFrame m #[x0] 1 = mkF m 0 #[.val x0] [] := by simp [entryFrame, mkF, argsToLocals, own_cat1 hx0, own_catI, own_catJ, own_catR]
set_option maxRecDepth 65536 in
set_option maxHeartbeats 40000000 in
theorem rm4 (l : Launch) (Z : State) (a0 : Array Value) (hw : ∀ d ∈ tables_1, d.before a0 Z = true) (ws : List Jvm.Cond) (x1 : Value) (oc : Option (List Int32)) (h0 : Heap) (n0 : Nat) (q1 : x1.isRef = true) (hE : EW Z a0 own_EL) (Z0 : n0 ≤ h0.size) (G1 : Int32) (P5 : ¬ G1 = (0 : Int32)) (O0 : Old Z n0 h0) (Sc : Sta Z Z.heap "java/lang/String" "COMPACT_STRINGS" "Z" (.int G1)) (aa0 p0s v0s : Addr) (k0s : ClassId) (S0 : Sta Z Z.heap "com/example/leastwise/leastwise/core/AuthorizableType" "SYSTEM_USER" "Lcom/example/leastwise/leastwise/core/AuthorizableType;" (.ref aa0)) (E0 : Exa Z Z.heap aa0 "com/example/leastwise/leastwise/core/AuthorizableType") (F0 : Fld Z Z.heap aa0 "com/example/leastwise/leastwise/core/AuthorizableType" "primaryType" "Ljava/lang/String;" (.ref p0s)) (T0s : own_St Z Z.heap p0s v0s k0s [(114 : Int32), (101 : Int32), (112 : Int32), (58 : Int32), (83 : Int32), (121 : Int32), (115 : Int32), (116 : Int32), (101 : Int32), (109 : Int32), (85 : Int32), (115 : Int32), (101 : Int32), (114 : Int32)]) (a1 p1s v1s : Addr) (k1s : ClassId) (S1 : Sta Z Z.heap "com/example/leastwise/leastwise/core/AuthorizableType" "USER" "Lcom/example/leastwise/leastwise/core/AuthorizableType;" (.ref a1)) (E1 : Exa Z Z.heap a1 "com/example/leastwise/leastwise/core/AuthorizableType") (F1 : Fld Z Z.heap a1 "com/example/leastwise/leastwise/core/AuthorizableType" "primaryType" "Ljava/lang/String;" (.ref p1s)) (T1s : own_St Z Z.heap p1s v1s k1s [(114 : Int32), (101 : Int32), (112 : Int32), (58 : Int32), (85 : Int32), (115 : Int32), (101 : Int32), (114 : Int32)]) (a2 p2s v2s : Addr) (k2s : ClassId) (S2 : Sta Z Z.heap "com/example/leastwise/leastwise/core/AuthorizableType" "GROUP" "Lcom/example/leastwise/leastwise/core/AuthorizableType;" (.ref a2)) (E2 : Exa Z Z.heap a2 "com/example/leastwise/leastwise/core/AuthorizableType") (F2 : Fld Z Z.heap a2 "com/example/leastwise/leastwise/core/AuthorizableType" "primaryType" "Ljava/lang/String;" (.ref p2s)) (T2s : own_St Z Z.heap p2s v2s k2s [(114 : Int32), (101 : Int32), (112 : Int32), (58 : Int32), (71 : Int32), (114 : Int32), (111 : Int32), (117 : Int32), (112 : Int32)]) (av : Addr) (kv : ClassId) (Sv : Sta Z Z.heap "com/example/leastwise/leastwise/core/AuthorizableType" "$VALUES" "[Lcom/example/leastwise/leastwise/core/AuthorizableType;" (.ref av)) (Ev : Exa Z Z.heap av "[Lcom/example/leastwise/leastwise/core/AuthorizableType;") (Vv : Arv Z Z.heap av kv (.object "com/example/leastwise/leastwise/core/AuthorizableType") (3 : Int32) [.ref aa0, .ref a1, .ref a2] .null) (hS : own_SC Z h0 x1 oc)  :
    own_MetW own_EL l (⟨"com/example/leastwise/leastwise/core/AuthorizableTypeOfPinLaw", "reference", "(Ljava/lang/String;)Lcom/example/leastwise/leastwise/core/AuthorizableType;"⟩ : MethodName) method_3_code 1 (some (.object "com/example/leastwise/leastwise/core/AuthorizableType")) ws ({ frames := 3, cells := 6, slots := 136, locals := 42 } : Room) Z #[x1] h0 (Q4 oc aa0 a1 a2 h0 n0) := by
  refine own_enterW #[.val x1] (plainFor_of_name pn4) (fun m => ef4 m x1 q1) hE ?_
  intro p e s m below meth c s₁ hx hby hml hown hnm hZ hrt hlk X0 e0 Wd0
  have N0 := Fr.nil n0
  have wS := own_wS hw
  rcases hS with ⟨rfl, rfl⟩ | ⟨sa, st, sk, cs, rfl, rfl, hst⟩
  ·
    have heq : ∀ d ∈ StrChars.Road.wordsEq, d.before a0 Z = true := fun d hd => hw d ((by decide +kernel : ∀ d ∈ StrChars.Road.wordsEq, d ∈ tables_1) d hd)
    refine own_tp .null 1 (fun _ q => XS.aloadN X0.here hx rfl (hb hby d4_0) rfl rfl q) ?_
    refine own_d1 4 (fun _ q => XS.ifnonnullNo X0.here hx rfl (hb hby d4_1) rfl q) ?_
    refine own_tp .null 5 (fun _ q => XS.aconstNull X0.here hx rfl (hb hby d4_4) q) ?_
    exact own_retRW X0 hx hrt (hb hby d4_5) rfl rfl hlk (by decide) (by decide) e0 Wd0 (⟨by rfl, N0, own_extrefl⟩)
  ·
    have heq : ∀ d ∈ StrChars.Road.wordsEq, d.before a0 Z = true := fun d hd => hw d ((by decide +kernel : ∀ d ∈ StrChars.Road.wordsEq, d ∈ tables_1) d hd)
    refine own_tp (.ref sa) 1 (fun _ q => XS.aloadN X0.here hx rfl (hb hby d4_0) rfl rfl q) ?_
    refine own_d1 6 (fun _ q => XS.ifnonnullYes X0.here hx rfl (pc0 := 1) (pc' := 6) rfl (hb hby d4_1) rfl (by decide) (by decide) q) ?_
    refine own_tp (.ref sa) 7 (fun _ q => XS.aloadN X0.here hx rfl (hb hby d4_6) rfl rfl q) ?_
    obtain ⟨b51, T51, h51, bb51, kk51, X51, e51, E51, Wd51, ho51, A51, Cd51, Vl51, V51, Ch51, Sf51, st51⟩ := own_ldc X0 hx Wd0 hown (hw _ (List.mem_of_getElem? (i := 38) rfl)) wS e0 (by simp [own_EL]) (vs := [(.int (114 : Int32)), (.int (101 : Int32)), (.int (112 : Int32)), (.int (58 : Int32)), (.int (83 : Int32)), (.int (121 : Int32)), (.int (115 : Int32)), (.int (116 : Int32)), (.int (101 : Int32)), (.int (109 : Int32)), (.int (85 : Int32)), (.int (115 : Int32)), (.int (101 : Int32)), (.int (114 : Int32))]) (z := (14 : Int32)) ⟨by decide, by decide⟩ (by decide) rfl (g := (mkF m 7 #[.val (.ref sa)] [(.ref sa)])) rfl (hb hby d4_7) (n := 56) (by decide) (by decide) (by decide) (by decide)
    have hZ51 : Z.Warmed39 (s.setVm T51.vm).vm := Wd51.hZ
    have hown51 : (s.setVm T51.vm).vm.findClass "com/example/leastwise/leastwise/core/AuthorizableTypeOfPinLaw" = some m.cls := ho51
    have O51 := Old.ext O0 E51
    have Z51 : n0 ≤ h51.size := Nat.le_trans Z0 E51.1
    have Tl51 : own_St Z h51 b51 bb51 kk51 ([(114 : Int32), (101 : Int32), (112 : Int32), (58 : Int32), (83 : Int32), (121 : Int32), (115 : Int32), (116 : Int32), (101 : Int32), (109 : Int32), (85 : Int32), (115 : Int32), (101 : Int32), (114 : Int32)] : List Int32) := ⟨A51, Vl51, Cd51, V51, by decide, by decide⟩
    refine own_tp (.ref b51) 9 st51 ?_
    have f53 := (hst.ext E51)
    have sa52 := f53
    have sb52 := Tl51
    have f55 := (hst.1.ext E51)
    obtain ⟨cq54, kq54, q54a, q54b, q54c⟩ := isOf hZ51 e51 f55
    obtain ⟨_, _, ⟨T54, L54, k54, n54⟩, -, X54, ⟨Lc54, hQ54, l54, y54, z54⟩, st54⟩ := X51.virtualBack hx (y := (⟨"java/lang/String", "equals", "(Ljava/lang/Object;)Z"⟩ : MethodName)) (z := (⟨"java/lang/String", "equals", "(Ljava/lang/Object;)Z"⟩ : MethodName)) hown51 (mvT hZ51 (hw _ (List.mem_of_getElem? (i := 41) rfl))) (mvT hZ51 (hw _ (List.mem_of_getElem? (i := 42) rfl))) (notFace_of_selects (args := #[]) (mvT hZ51 (hw _ (List.mem_of_getElem? (i := 44) rfl)))) (mvT hZ51 (hw _ (List.mem_of_getElem? (i := 44) rfl))) (mvT hZ51 (hw _ (List.mem_of_getElem? (i := 43) rfl))) (by decide) (StrChars.Road.eqW (W := 0) hZ51 heq (kI := 4) (hw _ (List.mem_of_getElem? (i := 2) rfl)) sa52.1 sa52.2.1 sa52.2.2.1 sa52.2.2.2.1 (StrChars.Road.codOf (cs := cs) rfl (fun x hx => (sa52.2.2.2.2.1 x hx).2)) (own_upl _ sa52.2.2.2.2.1) sa52.2.2.2.2.2 sb52.1 sb52.2.1 sb52.2.2.1 sb52.2.2.2.1 (StrChars.Road.codOf (cs := [(114 : Int32), (101 : Int32), (112 : Int32), (58 : Int32), (83 : Int32), (121 : Int32), (115 : Int32), (116 : Int32), (101 : Int32), (109 : Int32), (85 : Int32), (115 : Int32), (101 : Int32), (114 : Int32)]) rfl (fun x hx => (sb52.2.2.2.2.1 x hx).2)) (own_upl _ sb52.2.2.2.2.1) sb52.2.2.2.2.2 (Sc.ext O51.2) P5 (by decide) (by decide)) q54a q54c (g := (mkF m 9 #[.val (.ref sa)] [(.ref b51), (.ref sa)])) rfl (by rw [hml]; rfl) (Steps.refl _) (argsL := [(.ref b51)]) (rest := []) (lenOf pd4_0 rfl) rfl (by show 2 * 0 + _ ≤ _; exact Nat.le_of_eq rfl) (hb hby d4_9) (fun _ _ => ⟨rfl, e51, (by decide : 2 + 0 ≤ _), (by decide : 60 + 0 ≤ _)⟩)
    dsimp only [Pt.U, Pt.locs, Pt.cells, Pt.slots] at X54 l54 y54 z54 st54 hQ54
    subst l54 y54 z54
    obtain ⟨hv54, rfl, eq54⟩ := hQ54
    have N54 := Fr.app N0 (Fr.nil n0)
    rcases hv54 with ⟨rfl, hq54⟩ | ⟨rfl, hq54⟩
    ·
      refine own_csR [(.int (1 : Int32))] 12 st54 ?_
      refine own_d1 15 (fun _ q => XS.ifNo X54.here hx rfl (hb hby d4_12) rfl ((if0 _ _).trans (feq (by decide : ¬ ((1 : Int32) = (0 : Int32)))).1) q) ?_
      obtain ⟨T56, X56, e56, st56⟩ := getS2 X54 hx hZ51 hown51 (host := "") (Or.inl (hw _ (List.mem_of_getElem? (i := 84) rfl))) Via.refl eq54 (S0.ext O51.2) (g := (mkF m 15 #[.val (.ref sa)] [])) rfl (hb hby d4_15)
      refine own_tp (.ref aa0) 18 st56 ?_
      exact own_retRW X56 hx hrt (hb hby d4_18) rfl rfl hlk (by decide) (by decide) e56 Wd51 (⟨by simp [own_ref, hq54.symm], N54, E51⟩)
    ·
      refine own_csR [(.int (0 : Int32))] 12 st54 ?_
      refine own_d1 19 (fun _ q => XS.ifYes X54.here hx rfl (pc0 := 12) (pc' := 19) rfl (hb hby d4_12) rfl ((if0 _ _).trans (teq (by decide : (0 : Int32) = (0 : Int32))).1) (by decide) (by decide) q) ?_
      refine own_tp (.ref sa) 20 (fun _ q => XS.aloadN X54.here hx rfl (hb hby d4_19) rfl rfl q) ?_
      obtain ⟨b57, T57, h57, bb57, kk57, X57, e57, E57, Wd57, ho57, A57, Cd57, Vl57, V57, Ch57, Sf57, st57⟩ := own_ldc X54 hx Wd51 hown51 (hw _ (List.mem_of_getElem? (i := 51) rfl)) wS eq54 (by simp [own_EL]) (vs := [(.int (114 : Int32)), (.int (101 : Int32)), (.int (112 : Int32)), (.int (58 : Int32)), (.int (85 : Int32)), (.int (115 : Int32)), (.int (101 : Int32)), (.int (114 : Int32))]) (z := (8 : Int32)) ⟨by decide, by decide⟩ (by decide) rfl (g := (mkF m 20 #[.val (.ref sa)] [(.ref sa)])) rfl (hb hby d4_20) (n := 32) (by decide) (by decide) (by decide) (by decide)
      have hZ57 : Z.Warmed39 (s.setVm T57.vm).vm := Wd57.hZ
      have hown57 : (s.setVm T57.vm).vm.findClass "com/example/leastwise/leastwise/core/AuthorizableTypeOfPinLaw" = some m.cls := ho57
      have O57 := Old.ext O51 E57
      have Z57 : n0 ≤ h57.size := Nat.le_trans Z51 E57.1
      have Tl57 : own_St Z h57 b57 bb57 kk57 ([(114 : Int32), (101 : Int32), (112 : Int32), (58 : Int32), (85 : Int32), (115 : Int32), (101 : Int32), (114 : Int32)] : List Int32) := ⟨A57, Vl57, Cd57, V57, by decide, by decide⟩
      refine own_tp (.ref b57) 22 st57 ?_
      have f59 := (f53.ext E57)
      have sa58 := f59
      have sb58 := Tl57
      have f61 := (f55.ext E57)
      obtain ⟨cq60, kq60, q60a, q60b, q60c⟩ := isOf hZ57 e57 f61
      obtain ⟨_, _, ⟨T60, L60, k60, n60⟩, -, X60, ⟨Lc60, hQ60, l60, y60, z60⟩, st60⟩ := X57.virtualBack hx (y := (⟨"java/lang/String", "equals", "(Ljava/lang/Object;)Z"⟩ : MethodName)) (z := (⟨"java/lang/String", "equals", "(Ljava/lang/Object;)Z"⟩ : MethodName)) hown57 (mvT hZ57 (hw _ (List.mem_of_getElem? (i := 41) rfl))) (mvT hZ57 (hw _ (List.mem_of_getElem? (i := 42) rfl))) (notFace_of_selects (args := #[]) (mvT hZ57 (hw _ (List.mem_of_getElem? (i := 44) rfl)))) (mvT hZ57 (hw _ (List.mem_of_getElem? (i := 44) rfl))) (mvT hZ57 (hw _ (List.mem_of_getElem? (i := 43) rfl))) (by decide) (StrChars.Road.eqW (W := 0) hZ57 heq (kI := 4) (hw _ (List.mem_of_getElem? (i := 2) rfl)) sa58.1 sa58.2.1 sa58.2.2.1 sa58.2.2.2.1 (StrChars.Road.codOf (cs := cs) rfl (fun x hx => (sa58.2.2.2.2.1 x hx).2)) (own_upl _ sa58.2.2.2.2.1) sa58.2.2.2.2.2 sb58.1 sb58.2.1 sb58.2.2.1 sb58.2.2.2.1 (StrChars.Road.codOf (cs := [(114 : Int32), (101 : Int32), (112 : Int32), (58 : Int32), (85 : Int32), (115 : Int32), (101 : Int32), (114 : Int32)]) rfl (fun x hx => (sb58.2.2.2.2.1 x hx).2)) (own_upl _ sb58.2.2.2.2.1) sb58.2.2.2.2.2 (Sc.ext O57.2) P5 (by decide) (by decide)) q60a q60c (g := (mkF m 22 #[.val (.ref sa)] [(.ref b57), (.ref sa)])) rfl (by rw [hml]; rfl) (Steps.refl _) (argsL := [(.ref b57)]) (rest := []) (lenOf pd4_0 rfl) rfl (by show 2 * 0 + _ ≤ _; exact Nat.le_of_eq rfl) (hb hby d4_22) (fun _ _ => ⟨rfl, e57, (by decide : 4 + 0 ≤ _), (by decide : 96 + 0 ≤ _)⟩)
      dsimp only [Pt.U, Pt.locs, Pt.cells, Pt.slots] at X60 l60 y60 z60 st60 hQ60
      subst l60 y60 z60
      obtain ⟨hv60, rfl, eq60⟩ := hQ60
      have N60 := Fr.app N54 (Fr.nil n0)
      rcases hv60 with ⟨rfl, hq60⟩ | ⟨rfl, hq60⟩
      ·
        refine own_csR [(.int (1 : Int32))] 25 st60 ?_
        refine own_d1 28 (fun _ q => XS.ifNo X60.here hx rfl (hb hby d4_25) rfl ((if0 _ _).trans (feq (by decide : ¬ ((1 : Int32) = (0 : Int32)))).1) q) ?_
        obtain ⟨T62, X62, e62, st62⟩ := getS2 X60 hx hZ57 hown57 (host := "") (Or.inl (hw _ (List.mem_of_getElem? (i := 90) rfl))) Via.refl eq60 (S1.ext O57.2) (g := (mkF m 28 #[.val (.ref sa)] [])) rfl (hb hby d4_28)
        refine own_tp (.ref a1) 31 st62 ?_
        exact own_retRW X62 hx hrt (hb hby d4_31) rfl rfl hlk (by decide) (by decide) e62 Wd57 (⟨by simp [own_ref, hq54, Ne.symm hq54, hq60.symm], N60, (own_exttr E51 E57)⟩)
      ·
        refine own_csR [(.int (0 : Int32))] 25 st60 ?_
        refine own_d1 32 (fun _ q => XS.ifYes X60.here hx rfl (pc0 := 25) (pc' := 32) rfl (hb hby d4_25) rfl ((if0 _ _).trans (teq (by decide : (0 : Int32) = (0 : Int32))).1) (by decide) (by decide) q) ?_
        refine own_tp (.ref sa) 33 (fun _ q => XS.aloadN X60.here hx rfl (hb hby d4_32) rfl rfl q) ?_
        obtain ⟨b63, T63, h63, bb63, kk63, X63, e63, E63, Wd63, ho63, A63, Cd63, Vl63, V63, Ch63, Sf63, st63⟩ := own_ldc X60 hx Wd57 hown57 (hw _ (List.mem_of_getElem? (i := 52) rfl)) wS eq60 (by simp [own_EL]) (vs := [(.int (114 : Int32)), (.int (101 : Int32)), (.int (112 : Int32)), (.int (58 : Int32)), (.int (71 : Int32)), (.int (114 : Int32)), (.int (111 : Int32)), (.int (117 : Int32)), (.int (112 : Int32))]) (z := (9 : Int32)) ⟨by decide, by decide⟩ (by decide) rfl (g := (mkF m 33 #[.val (.ref sa)] [(.ref sa)])) rfl (hb hby d4_33) (n := 36) (by decide) (by decide) (by decide) (by decide)
        have hZ63 : Z.Warmed39 (s.setVm T63.vm).vm := Wd63.hZ
        have hown63 : (s.setVm T63.vm).vm.findClass "com/example/leastwise/leastwise/core/AuthorizableTypeOfPinLaw" = some m.cls := ho63
        have O63 := Old.ext O57 E63
        have Z63 : n0 ≤ h63.size := Nat.le_trans Z57 E63.1
        have Tl63 : own_St Z h63 b63 bb63 kk63 ([(114 : Int32), (101 : Int32), (112 : Int32), (58 : Int32), (71 : Int32), (114 : Int32), (111 : Int32), (117 : Int32), (112 : Int32)] : List Int32) := ⟨A63, Vl63, Cd63, V63, by decide, by decide⟩
        refine own_tp (.ref b63) 35 st63 ?_
        have f65 := (f59.ext E63)
        have sa64 := f65
        have sb64 := Tl63
        have f67 := (f61.ext E63)
        obtain ⟨cq66, kq66, q66a, q66b, q66c⟩ := isOf hZ63 e63 f67
        obtain ⟨_, _, ⟨T66, L66, k66, n66⟩, -, X66, ⟨Lc66, hQ66, l66, y66, z66⟩, st66⟩ := X63.virtualBack hx (y := (⟨"java/lang/String", "equals", "(Ljava/lang/Object;)Z"⟩ : MethodName)) (z := (⟨"java/lang/String", "equals", "(Ljava/lang/Object;)Z"⟩ : MethodName)) hown63 (mvT hZ63 (hw _ (List.mem_of_getElem? (i := 41) rfl))) (mvT hZ63 (hw _ (List.mem_of_getElem? (i := 42) rfl))) (notFace_of_selects (args := #[]) (mvT hZ63 (hw _ (List.mem_of_getElem? (i := 44) rfl)))) (mvT hZ63 (hw _ (List.mem_of_getElem? (i := 44) rfl))) (mvT hZ63 (hw _ (List.mem_of_getElem? (i := 43) rfl))) (by decide) (StrChars.Road.eqW (W := 0) hZ63 heq (kI := 4) (hw _ (List.mem_of_getElem? (i := 2) rfl)) sa64.1 sa64.2.1 sa64.2.2.1 sa64.2.2.2.1 (StrChars.Road.codOf (cs := cs) rfl (fun x hx => (sa64.2.2.2.2.1 x hx).2)) (own_upl _ sa64.2.2.2.2.1) sa64.2.2.2.2.2 sb64.1 sb64.2.1 sb64.2.2.1 sb64.2.2.2.1 (StrChars.Road.codOf (cs := [(114 : Int32), (101 : Int32), (112 : Int32), (58 : Int32), (71 : Int32), (114 : Int32), (111 : Int32), (117 : Int32), (112 : Int32)]) rfl (fun x hx => (sb64.2.2.2.2.1 x hx).2)) (own_upl _ sb64.2.2.2.2.1) sb64.2.2.2.2.2 (Sc.ext O63.2) P5 (by decide) (by decide)) q66a q66c (g := (mkF m 35 #[.val (.ref sa)] [(.ref b63), (.ref sa)])) rfl (by rw [hml]; rfl) (Steps.refl _) (argsL := [(.ref b63)]) (rest := []) (lenOf pd4_0 rfl) rfl (by show 2 * 0 + _ ≤ _; exact Nat.le_of_eq rfl) (hb hby d4_35) (fun _ _ => ⟨rfl, e63, (by decide : 6 + 0 ≤ _), (by decide : 136 + 0 ≤ _)⟩)
        dsimp only [Pt.U, Pt.locs, Pt.cells, Pt.slots] at X66 l66 y66 z66 st66 hQ66
        subst l66 y66 z66
        obtain ⟨hv66, rfl, eq66⟩ := hQ66
        have N66 := Fr.app N60 (Fr.nil n0)
        rcases hv66 with ⟨rfl, hq66⟩ | ⟨rfl, hq66⟩
        ·
          refine own_csR [(.int (1 : Int32))] 38 st66 ?_
          refine own_d1 41 (fun _ q => XS.ifNo X66.here hx rfl (hb hby d4_38) rfl ((if0 _ _).trans (feq (by decide : ¬ ((1 : Int32) = (0 : Int32)))).1) q) ?_
          obtain ⟨T68, X68, e68, st68⟩ := getS2 X66 hx hZ63 hown63 (host := "") (Or.inl (hw _ (List.mem_of_getElem? (i := 89) rfl))) Via.refl eq66 (S2.ext O63.2) (g := (mkF m 41 #[.val (.ref sa)] [])) rfl (hb hby d4_41)
          refine own_tp (.ref a2) 44 st68 ?_
          exact own_retRW X68 hx hrt (hb hby d4_44) rfl rfl hlk (by decide) (by decide) e68 Wd63 (⟨by simp [own_ref, hq54, Ne.symm hq54, hq60, Ne.symm hq60, hq66.symm], N66, (own_exttr (own_exttr E51 E57) E63)⟩)
        ·
          refine own_csR [(.int (0 : Int32))] 38 st66 ?_
          refine own_d1 45 (fun _ q => XS.ifYes X66.here hx rfl (pc0 := 38) (pc' := 45) rfl (hb hby d4_38) rfl ((if0 _ _).trans (teq (by decide : (0 : Int32) = (0 : Int32))).1) (by decide) (by decide) q) ?_
          refine own_tp .null 46 (fun _ q => XS.aconstNull X66.here hx rfl (hb hby d4_45) q) ?_
          exact own_retRW X66 hx hrt (hb hby d4_46) rfl rfl hlk (by decide) (by decide) eq66 Wd63 (⟨by simp [own_ref, hq54, Ne.symm hq54, hq60, Ne.symm hq60, hq66, Ne.symm hq66], N66, (own_exttr (own_exttr E51 E57) E63)⟩)

def own_by (k : Int32) (a b c : Addr) : Addr := if k = 0 then a else if k = 1 then b else c
def Q5 (p1 : Int32) (aa0 a1 a2 : Addr) (h0 : Heap) (n0 : Nat) (v : Option Value) (h : Heap) (L : List Loc) : Prop := v = some (.ref (own_by p1 aa0 a1 a2)) ∧ Fr n0 L ∧ h = h0

theorem d5_0 : decode method_4_code 0 = .ok (.iload_n 0, 1) := by decide +kernel
theorem d5_1 : decode method_4_code 1 = .ok (.ifCond .ne 7, 3) := by decide +kernel
theorem d5_4 : decode method_4_code 4 = .ok (.getstatic 48, 3) := by decide +kernel
theorem d5_7 : decode method_4_code 7 = .ok (.areturn, 1) := by decide +kernel
theorem d5_8 : decode method_4_code 8 = .ok (.iload_n 0, 1) := by decide +kernel
theorem d5_9 : decode method_4_code 9 = .ok (.iconst 1, 1) := by decide +kernel
theorem d5_10 : decode method_4_code 10 = .ok (.if_icmp .ne 7, 3) := by decide +kernel
theorem d5_13 : decode method_4_code 13 = .ok (.getstatic 54, 3) := by decide +kernel
theorem d5_16 : decode method_4_code 16 = .ok (.areturn, 1) := by decide +kernel
theorem d5_17 : decode method_4_code 17 = .ok (.getstatic 59, 3) := by decide +kernel
theorem d5_20 : decode method_4_code 20 = .ok (.areturn, 1) := by decide +kernel
theorem pn5 : plainName "com/example/leastwise/leastwise/core/AuthorizableTypeOfPinLaw" = true := by first | (simp [plainName, overriddenIn]; done) | decide +kernel
theorem ef5 (m : MethodId) (x0 : Int32) : entryFrame m #[(.int x0)] 1 = mkF m 0 #[.val (.int x0)] [] := by first | (simp [entryFrame, mkF, argsToLocals, Value.category]; done) | rfl
set_option maxRecDepth 65536 in
set_option maxHeartbeats 40000000 in
theorem rm5 (l : Launch) (Z : State) (a0 : Array Value) (hw : ∀ d ∈ tables_1, d.before a0 Z = true) (ws : List Jvm.Cond) (p1 : Int32) (h0 : Heap) (n0 : Nat) (Z0 : n0 ≤ h0.size) (G1 : Int32) (P5 : ¬ G1 = (0 : Int32)) (O0 : Old Z n0 h0) (Sc : Sta Z Z.heap "java/lang/String" "COMPACT_STRINGS" "Z" (.int G1)) (aa0 p0s v0s : Addr) (k0s : ClassId) (S0 : Sta Z Z.heap "com/example/leastwise/leastwise/core/AuthorizableType" "SYSTEM_USER" "Lcom/example/leastwise/leastwise/core/AuthorizableType;" (.ref aa0)) (E0 : Exa Z Z.heap aa0 "com/example/leastwise/leastwise/core/AuthorizableType") (F0 : Fld Z Z.heap aa0 "com/example/leastwise/leastwise/core/AuthorizableType" "primaryType" "Ljava/lang/String;" (.ref p0s)) (T0s : own_St Z Z.heap p0s v0s k0s [(114 : Int32), (101 : Int32), (112 : Int32), (58 : Int32), (83 : Int32), (121 : Int32), (115 : Int32), (116 : Int32), (101 : Int32), (109 : Int32), (85 : Int32), (115 : Int32), (101 : Int32), (114 : Int32)]) (a1 p1s v1s : Addr) (k1s : ClassId) (S1 : Sta Z Z.heap "com/example/leastwise/leastwise/core/AuthorizableType" "USER" "Lcom/example/leastwise/leastwise/core/AuthorizableType;" (.ref a1)) (E1 : Exa Z Z.heap a1 "com/example/leastwise/leastwise/core/AuthorizableType") (F1 : Fld Z Z.heap a1 "com/example/leastwise/leastwise/core/AuthorizableType" "primaryType" "Ljava/lang/String;" (.ref p1s)) (T1s : own_St Z Z.heap p1s v1s k1s [(114 : Int32), (101 : Int32), (112 : Int32), (58 : Int32), (85 : Int32), (115 : Int32), (101 : Int32), (114 : Int32)]) (a2 p2s v2s : Addr) (k2s : ClassId) (S2 : Sta Z Z.heap "com/example/leastwise/leastwise/core/AuthorizableType" "GROUP" "Lcom/example/leastwise/leastwise/core/AuthorizableType;" (.ref a2)) (E2 : Exa Z Z.heap a2 "com/example/leastwise/leastwise/core/AuthorizableType") (F2 : Fld Z Z.heap a2 "com/example/leastwise/leastwise/core/AuthorizableType" "primaryType" "Ljava/lang/String;" (.ref p2s)) (T2s : own_St Z Z.heap p2s v2s k2s [(114 : Int32), (101 : Int32), (112 : Int32), (58 : Int32), (71 : Int32), (114 : Int32), (111 : Int32), (117 : Int32), (112 : Int32)]) (av : Addr) (kv : ClassId) (Sv : Sta Z Z.heap "com/example/leastwise/leastwise/core/AuthorizableType" "$VALUES" "[Lcom/example/leastwise/leastwise/core/AuthorizableType;" (.ref av)) (Ev : Exa Z Z.heap av "[Lcom/example/leastwise/leastwise/core/AuthorizableType;") (Vv : Arv Z Z.heap av kv (.object "com/example/leastwise/leastwise/core/AuthorizableType") (3 : Int32) [.ref aa0, .ref a1, .ref a2] .null) :
    own_Met l (⟨"com/example/leastwise/leastwise/core/AuthorizableTypeOfPinLaw", "byIndex", "(I)Lcom/example/leastwise/leastwise/core/AuthorizableType;"⟩ : MethodName) method_4_code 1 (some (.object "com/example/leastwise/leastwise/core/AuthorizableType")) ws ({ frames := 0, cells := 0, slots := 0, locals := 0 } : Room) Z #[(.int p1)] h0 (Q5 p1 aa0 a1 a2 h0 n0) := by
  refine own_enter #[.val (.int p1)] (plainFor_of_name pn5) (fun m => ef5 m p1) ?_
  intro p e s m below meth c s₁ hx hby hml hown hnm hZ hrt hlk X0 e0
  have N0 := Fr.nil n0
  refine own_tp (.int p1) 1 (fun _ q => XS.iloadN X0.here hx rfl (hb hby d5_0) rfl q) ?_
  by_cases c51 : p1 = (0 : Int32)
  ·
    refine own_d1 4 (fun _ q => XS.ifNo X0.here hx rfl (hb hby d5_1) rfl ((if0 _ _).trans (teq c51).2) q) ?_
    obtain ⟨T52, X52, e52, st52⟩ := getS2 X0 hx hZ hown (host := "") (Or.inl (hw _ (List.mem_of_getElem? (i := 84) rfl))) Via.refl e0 (S0.ext O0.2) (g := (mkF m 4 #[.val (.int p1)] [])) rfl (hb hby d5_4)
    refine own_tp (.ref aa0) 7 st52 ?_
    exact own_retR X52 hx hrt (hb hby d5_7) rfl rfl hlk (by decide) (by decide) e52 (⟨by simp [own_by, c51], N0, rfl⟩)
  ·
    refine own_d1 8 (fun _ q => XS.ifYes X0.here hx rfl (pc0 := 1) (pc' := 8) rfl (hb hby d5_1) rfl ((if0 _ _).trans (feq c51).2) (by decide) (by decide) q) ?_
    refine own_tp (.int p1) 9 (fun _ q => XS.iloadN X0.here hx rfl (hb hby d5_8) rfl q) ?_
    refine own_tp (.int (1 : Int32)) 10 (fun _ q => XS.iconst X0.here hx rfl (hb hby d5_9) q) ?_
    by_cases c53 : p1 = (1 : Int32)
    ·
      refine own_d2 13 (fun _ q => XS.icmpNo X0.here hx rfl (hb hby d5_10) rfl (teq c53).2 q) ?_
      obtain ⟨T54, X54, e54, st54⟩ := getS2 X0 hx hZ hown (host := "") (Or.inl (hw _ (List.mem_of_getElem? (i := 90) rfl))) Via.refl e0 (S1.ext O0.2) (g := (mkF m 13 #[.val (.int p1)] [])) rfl (hb hby d5_13)
      refine own_tp (.ref a1) 16 st54 ?_
      exact own_retR X54 hx hrt (hb hby d5_16) rfl rfl hlk (by decide) (by decide) e54 (⟨by simp [own_by, c51, c53], N0, rfl⟩)
    ·
      refine own_d2 17 (fun _ q => XS.icmpYes X0.here hx rfl (pc0 := 10) (pc' := 17) rfl (hb hby d5_10) rfl (feq c53).2 (by decide) (by decide) q) ?_
      obtain ⟨T55, X55, e55, st55⟩ := getS2 X0 hx hZ hown (host := "") (Or.inl (hw _ (List.mem_of_getElem? (i := 89) rfl))) Via.refl e0 (S2.ext O0.2) (g := (mkF m 17 #[.val (.int p1)] [])) rfl (hb hby d5_17)
      refine own_tp (.ref a2) 20 st55 ?_
      exact own_retR X55 hx hrt (hb hby d5_20) rfl rfl hlk (by decide) (by decide) e55 (⟨by simp [own_by, c51, c53], N0, rfl⟩)

theorem pn0 : plainName "com/example/leastwise/leastwise/core/AuthorizableTypeOfPinLaw" = true := by first | (simp [plainName, overriddenIn]; done) | decide +kernel
theorem pd0_0 : parseMethodDescriptor "(Ljava/lang/String;)Lcom/example/leastwise/leastwise/core/AuthorizableType;" = some ⟨[(.object "java/lang/String")], some (.object "com/example/leastwise/leastwise/core/AuthorizableType")⟩ := by decide +kernel
theorem pd0_1 : parseMethodDescriptor "(I)Lcom/example/leastwise/leastwise/core/AuthorizableType;" = some ⟨[.int], some (.object "com/example/leastwise/leastwise/core/AuthorizableType")⟩ := by decide +kernel
theorem pd0_2 : parseMethodDescriptor "([C)V" = some ⟨[(.array .char)], none⟩ := by decide +kernel
theorem pd0_3 : parseMethodDescriptor "(I)[C" = some ⟨[.int], some (.array .char)⟩ := by decide +kernel
theorem pd0_4 : parseMethodDescriptor "(IZ)[C" = some ⟨[.int, .boolean], some (.array .char)⟩ := by decide +kernel
theorem ef0 (m : MethodId) (x0 : Int32) (x1 : Int32) (x2 : Int32) (x3 : Int32) (x4 : Int32) (x5 : Int32) : entryFrame m #[(.int x0), (.int x1), (.int x2), (.int x3), (.int x4), (.int x5)] maxLocals = mkF m 0 #[.val (.int x0), .val (.int x1), .val (.int x2), .val (.int x3), .val (.int x4), .val (.int x5), .unset, .unset, .unset, .unset, .unset, .unset] [] := by first | (simp [entryFrame, mkF, argsToLocals, Value.category, maxLocals]; done) | rfl
set_option maxRecDepth 65536 in
set_option maxHeartbeats 40000000 in
theorem rm0 (l : Launch) (Z : State) (a0 : Array Value) (hw : ∀ d ∈ tables_1, d.before a0 Z = true) (ws : List Jvm.Cond) (p0 p1 p2 p3 p4 p5 : Int32) (h0 : Heap) (n0 : Nat) (hE : EW Z a0 own_EL) (Z0 : n0 ≤ h0.size) (G1 : Int32) (P5 : ¬ G1 = (0 : Int32)) (O0 : Old Z n0 h0) (Sc : Sta Z Z.heap "java/lang/String" "COMPACT_STRINGS" "Z" (.int G1)) (aa0 p0s v0s : Addr) (k0s : ClassId) (S0 : Sta Z Z.heap "com/example/leastwise/leastwise/core/AuthorizableType" "SYSTEM_USER" "Lcom/example/leastwise/leastwise/core/AuthorizableType;" (.ref aa0)) (E0 : Exa Z Z.heap aa0 "com/example/leastwise/leastwise/core/AuthorizableType") (F0 : Fld Z Z.heap aa0 "com/example/leastwise/leastwise/core/AuthorizableType" "primaryType" "Ljava/lang/String;" (.ref p0s)) (T0s : own_St Z Z.heap p0s v0s k0s [(114 : Int32), (101 : Int32), (112 : Int32), (58 : Int32), (83 : Int32), (121 : Int32), (115 : Int32), (116 : Int32), (101 : Int32), (109 : Int32), (85 : Int32), (115 : Int32), (101 : Int32), (114 : Int32)]) (a1 p1s v1s : Addr) (k1s : ClassId) (S1 : Sta Z Z.heap "com/example/leastwise/leastwise/core/AuthorizableType" "USER" "Lcom/example/leastwise/leastwise/core/AuthorizableType;" (.ref a1)) (E1 : Exa Z Z.heap a1 "com/example/leastwise/leastwise/core/AuthorizableType") (F1 : Fld Z Z.heap a1 "com/example/leastwise/leastwise/core/AuthorizableType" "primaryType" "Ljava/lang/String;" (.ref p1s)) (T1s : own_St Z Z.heap p1s v1s k1s [(114 : Int32), (101 : Int32), (112 : Int32), (58 : Int32), (85 : Int32), (115 : Int32), (101 : Int32), (114 : Int32)]) (a2 p2s v2s : Addr) (k2s : ClassId) (S2 : Sta Z Z.heap "com/example/leastwise/leastwise/core/AuthorizableType" "GROUP" "Lcom/example/leastwise/leastwise/core/AuthorizableType;" (.ref a2)) (E2 : Exa Z Z.heap a2 "com/example/leastwise/leastwise/core/AuthorizableType") (F2 : Fld Z Z.heap a2 "com/example/leastwise/leastwise/core/AuthorizableType" "primaryType" "Ljava/lang/String;" (.ref p2s)) (T2s : own_St Z Z.heap p2s v2s k2s [(114 : Int32), (101 : Int32), (112 : Int32), (58 : Int32), (71 : Int32), (114 : Int32), (111 : Int32), (117 : Int32), (112 : Int32)]) (av : Addr) (kv : ClassId) (Sv : Sta Z Z.heap "com/example/leastwise/leastwise/core/AuthorizableType" "$VALUES" "[Lcom/example/leastwise/leastwise/core/AuthorizableType;" (.ref av)) (Ev : Exa Z Z.heap av "[Lcom/example/leastwise/leastwise/core/AuthorizableType;") (Vv : Arv Z Z.heap av kv (.object "com/example/leastwise/leastwise/core/AuthorizableType") (3 : Int32) [.ref aa0, .ref a1, .ref a2] .null) :
    own_MetW own_EL l x code maxLocals ret ws room_1 Z #[(.int p0), (.int p1), (.int p2), (.int p3), (.int p4), (.int p5)] h0 (Q0 h0 n0) := by
  refine own_enterW #[.val (.int p0), .val (.int p1), .val (.int p2), .val (.int p3), .val (.int p4), .val (.int p5), .unset, .unset, .unset, .unset, .unset, .unset] (plainFor_of_name pn0) (fun m => ef0 m p0 p1 p2 p3 p4 p5) hE ?_
  intro p e s m below meth c s₁ hx hby hml hown hnm hZ hrt hlk X0 e0 Wd0
  have N0 := Fr.nil n0
  have wS := own_wS hw
  refine own_tp (.int p0) 1 (fun _ q => XS.iloadN X0.here hx rfl (hb hby at_0) rfl q) ?_
  let L_51 : Array Slot := #[.val (.int p0), .val (.int p1), .val (.int p2), .val (.int p3), .val (.int p4), .val (.int p5), .unset, .unset, .unset, .unset, .unset, .unset]
  refine own_tp (.int (2147483647 : Int32)) 3 (fun _ q => X0.ldcInt hx hown (mvT hZ (hw _ (List.mem_of_getElem? (i := 0) rfl))) (g := (mkF m 1 L_51 [(.int p0)])) rfl (hb hby at_1) _ q) ?_
  refine own_t2 (.int (p0 &&& (2147483647 : Int32))) 4 (fun _ q => XS.iand X0.here hx rfl (hb hby at_3) rfl q) ?_
  refine own_tp (.int (3 : Int32)) 5 (fun _ q => XS.iconst X0.here hx rfl (hb hby at_4) q) ?_
  refine own_t2 (.int ((p0 &&& (2147483647 : Int32)) % (3 : Int32))) 6 (fun _ q => iremM (g := (mkF m 5 L_51 [(.int (3 : Int32)), (.int (p0 &&& (2147483647 : Int32)))])) X0 hx rfl (hb hby at_5) rfl (by decide) q) ?_
  obtain ⟨kk, ekk, hk⟩ : ∃ z : Int32, ((p0 &&& (2147483647 : Int32)) % (3 : Int32)) = z ∧ (z = (0 : Int32) ∨ z = (1 : Int32) ∨ z = (2 : Int32)) := ⟨_, rfl, own_3 p0⟩
  rw [ekk]
  let L_52 : Array Slot := #[.val (.int p0), .val (.int p1), .val (.int p2), .val (.int p3), .val (.int p4), .val (.int p5), .val (.int kk), .unset, .unset, .unset, .unset, .unset]
  refine own_ls L_52 8 (fun _ q => XS.istore X0.here hx rfl (hb hby at_6) rfl (l' := L_52) rfl q) ?_
  refine own_tp (.int p1) 9 (fun _ q => XS.iloadN X0.here hx rfl (hb hby at_8) rfl q) ?_
  refine own_tp (.int (7 : Int32)) 11 (fun _ q => XS.bipush X0.here hx rfl (hb hby at_9) q) ?_
  refine own_t2 (.int (p1 &&& (7 : Int32))) 12 (fun _ q => XS.iand X0.here hx rfl (hb hby at_11) rfl q) ?_
  obtain ⟨mm, emm, _hm⟩ : ∃ z : Int32, (p1 &&& (7 : Int32)) = z ∧ True := ⟨_, rfl, trivial⟩
  rw [emm]
  let L_53 : Array Slot := #[.val (.int p0), .val (.int p1), .val (.int p2), .val (.int p3), .val (.int p4), .val (.int p5), .val (.int kk), .val (.int mm), .unset, .unset, .unset, .unset]
  refine own_ls L_53 14 (fun _ q => XS.istore X0.here hx rfl (hb hby at_12) rfl (l' := L_53) rfl q) ?_
  refine own_tp (.int p3) 15 (fun _ q => XS.iloadN X0.here hx rfl (hb hby at_14) rfl q) ?_
  refine own_tp (.int (255 : Int32)) 18 (fun _ q => XS.sipush X0.here hx rfl (hb hby at_15) q) ?_
  refine own_t2 (.int (p3 &&& (255 : Int32))) 19 (fun _ q => XS.iand X0.here hx rfl (hb hby at_18) rfl q) ?_
  refine own_t1 (.int ((p3 &&& (255 : Int32)).toUInt32.toUInt16.toUInt32.toInt32)) 20 (fun _ q => XS.i2c X0.here hx rfl (hb hby at_19) rfl q) ?_
  obtain ⟨cc, ecc, hcc⟩ : ∃ z : Int32, ((p3 &&& (255 : Int32)).toUInt32.toUInt16.toUInt32.toInt32) = z ∧ (0 ≤ z.toInt ∧ z.toInt ≤ 255) := own_c255 p3
  rw [ecc]
  let L_54 : Array Slot := #[.val (.int p0), .val (.int p1), .val (.int p2), .val (.int p3), .val (.int p4), .val (.int p5), .val (.int kk), .val (.int mm), .val (.int cc), .unset, .unset, .unset]
  refine own_ls L_54 22 (fun _ q => XS.istore X0.here hx rfl (hb hby at_20) rfl (l' := L_54) rfl q) ?_
  have kj56 : ∀ (sl10 : Slot) (sl11 : Slot) (Tj56 : State) (lj56 : List Loc) (vj56 : Vm) (hj56 : Heap) (s56 : Value), Stand p l e room_1 (s.setVm vj56) m #[(.int p0), (.int p1), (.int p2), (.int p3), (.int p4), (.int p5)] below meth c Tj56 lj56 10 120 → Fr n0 lj56 → Tj56.heap = hj56 → own_Wd Z a0 own_EL s h0 vj56 hj56 → vj56.findClass "com/example/leastwise/leastwise/core/AuthorizableTypeOfPinLaw" = some m.cls → Old Z n0 hj56 → n0 ≤ hj56.size → s56.isRef = true → One sl10 → One sl11 → (∃ oc : Option (List Int32), own_SC Z hj56 s56 oc ∧ (mm = 0 ∨ mm = 7 → oc = some (own_L kk))) → own_Goes p e below (own_FW Z own_EL s h0 (Q0 h0 n0) room_1.cells room_1.slots) (Tj56.setTop (mkF m 231 #[.val (.int p0), .val (.int p1), .val (.int p2), .val (.int p3), .val (.int p4), .val (.int p5), .val (.int kk), .val (.int mm), .val (.int cc), .val s56, sl10, sl11] [])) := by
    intro sl10 sl11 Tj56 lj56 vj56 hj56 s56 Xj56 Nj56 ej56 Wj56 oj56 Oj56 Zj56 rv56 hs10 hs11 pj56
    have hZ56 : Z.Warmed39 (s.setVm vj56).vm := Wj56.hZ
    have hown56 : (s.setVm vj56).vm.findClass "com/example/leastwise/leastwise/core/AuthorizableTypeOfPinLaw" = some m.cls := oj56
    obtain ⟨oc, hsc, hful⟩ := pj56
    refine own_tp s56 233 (fun _ q => XS.aload Xj56.here hx rfl (hb hby at_231) rfl rv56 q) ?_
    let L_57 : Array Slot := #[.val (.int p0), .val (.int p1), .val (.int p2), .val (.int p3), .val (.int p4), .val (.int p5), .val (.int kk), .val (.int mm), .val (.int cc), .val s56, sl10, sl11]
    obtain ⟨_, _, ⟨T58, L58, k58, n58⟩, -, X58, hS58, -, ⟨Lc58, hQ58, l58, y58, z58, Ch58⟩, st58⟩ := callSS Xj56 hx (y := (⟨"com/example/leastwise/leastwise/core/AuthorizableTypeOfPinLaw", "reference", "(Ljava/lang/String;)Lcom/example/leastwise/leastwise/core/AuthorizableType;"⟩ : MethodName)) hown56 (mvT hZ56 (hw _ (List.mem_of_getElem? (i := 35) rfl))) (mvT hZ56 (hw _ (List.mem_of_getElem? (i := 36) rfl))) (mvT hZ56 (hw _ (List.mem_of_getElem? (i := 6) rfl))) (mvT hZ56 (hw _ (List.mem_of_getElem? (i := 37) rfl))) (by decide) (backOfSH (W := 0) (rm4 l Z a0 hw [] s56 oc hj56 n0 rv56 hE Zj56 G1 P5 Oj56 Sc aa0 p0s v0s k0s S0 E0 F0 T0s a1 p1s v1s k1s S1 E1 F1 T1s a2 p2s v2s k2s S2 E2 F2 T2s av kv Sv Ev Vv hsc) hZ56 (hw _ (List.mem_of_getElem? (i := 37) rfl)) (hw _ (List.mem_of_getElem? (i := 6) rfl)) (by decide) (by decide) Wj56.hE Wj56.chv) (g := (mkF m 233 L_57 [s56])) rfl (by rw [hml]; rfl) (argsL := [s56]) (rest := []) (lenOf pd0_0 rfl) rfl (by show 2 * 0 + _ ≤ _; exact Nat.le_of_eq rfl) (hb hby at_233) (fun _ _ => ⟨rfl, ej56, (by decide : 10 + 6 ≤ _), (by decide : 120 + 136 ≤ _)⟩)
    dsimp only [Pt.U, Pt.locs, Pt.cells, Pt.slots] at X58 l58 y58 z58 st58 hQ58 hS58 Ch58
    subst l58 y58 z58
    have Wd58 := own_Wd.call Wj56 hS58 Ch58
    have hZ58 : Z.Warmed39 (s.setVm T58.vm).vm := Wd58.hZ
    have hown58 : (s.setVm T58.vm).vm.findClass "com/example/leastwise/leastwise/core/AuthorizableTypeOfPinLaw" = some m.cls := own_since_own hS58 hown56
    have Y58 : Stand p l e room_1 (s.setVm T58.vm) m #[(.int p0), (.int p1), (.int p2), (.int p3), (.int p4), (.int p5)] below meth c T58 _ _ _ := X58
    obtain ⟨rfl, Nq58, Ex58⟩ := hQ58
    have N58 := Fr.app Nj56 Nq58
    have O58 := Old.ext Oj56 Ex58
    have Z58 : n0 ≤ T58.heap.size := Nat.le_trans Zj56 Ex58.1
    refine own_csR [(own_ref oc aa0 a1 a2)] 236 st58 ?_
    let L_59 : Array Slot := #[.val (.int p0), .val (.int p1), .val (.int p2), .val (.int p3), .val (.int p4), .val (.int p5), .val (.int kk), .val (.int mm), .val (.int cc), .val s56, .val (own_ref oc aa0 a1 a2), sl11]
    refine own_ls L_59 238 (fun _ q => XS.astoreS Y58.here hx rfl (hb hby at_236) rfl (own_ref_ref _ _ _ _) (own_cat1 (own_ref_ref _ _ _ _)) rfl hs10 q) ?_
    refine own_tp s56 240 (fun _ q => XS.aload Y58.here hx rfl (hb hby at_238) rfl rv56 q) ?_
    have f60 := (hsc.ext Ex58)
    obtain ⟨_, _, ⟨T61, L61, k61, n61⟩, -, X61, ⟨Lc61, hQ61, l61, y61, z61⟩, st61⟩ := Jvm.LawKit.callS Y58 hx (y := (⟨"com/example/leastwise/leastwise/core/AuthorizableType", "of", "(Ljava/lang/String;)Lcom/example/leastwise/leastwise/core/AuthorizableType;"⟩ : MethodName)) hown58 (mvT hZ58 (hw _ (List.mem_of_getElem? (i := 53) rfl))) (mvT hZ58 (hw _ (List.mem_of_getElem? (i := 54) rfl))) (mvT hZ58 (hw _ (List.mem_of_getElem? (i := 55) rfl))) (mvT hZ58 (hw _ (List.mem_of_getElem? (i := 56) rfl))) (by decide) (backOf (W := 0) (rm3 l Z a0 hw [] s56 oc T58.heap n0 rv56 Z58 G1 P5 O58 Sc aa0 p0s v0s k0s S0 E0 F0 T0s a1 p1s v1s k1s S1 E1 F1 T1s a2 p2s v2s k2s S2 E2 F2 T2s av kv Sv Ev Vv f60) hZ58 (hw _ (List.mem_of_getElem? (i := 56) rfl)) (hw _ (List.mem_of_getElem? (i := 55) rfl)) (by decide) (by decide)) (g := (mkF m 240 L_59 [s56])) rfl (by rw [hml]; rfl) (argsL := [s56]) (rest := []) (lenOf pd0_0 rfl) rfl (by show 2 * 0 + _ ≤ _; exact Nat.le_of_eq rfl) (hb hby at_240) (fun _ _ => ⟨rfl, rfl, (by decide : 16 + 1 ≤ _), (by decide : 256 + 3 ≤ _)⟩)
    dsimp only [Pt.U, Pt.locs, Pt.cells, Pt.slots] at X61 l61 y61 z61 st61 hQ61
    subst l61 y61 z61
    obtain ⟨rfl, Nq61, Ex61⟩ := hQ61
    have Wd61 := Wd58.ext Ex61
    have N61 := Fr.app N58 Nq61
    have O61 := Old.ext O58 Ex61
    have Z61 : n0 ≤ T61.heap.size := Nat.le_trans Z58 Ex61.1
    refine own_t1 (own_ref oc aa0 a1 a2) 243 st61 ?_
    let L_62 : Array Slot := #[.val (.int p0), .val (.int p1), .val (.int p2), .val (.int p3), .val (.int p4), .val (.int p5), .val (.int kk), .val (.int mm), .val (.int cc), .val s56, .val (own_ref oc aa0 a1 a2), .val (own_ref oc aa0 a1 a2)]
    refine own_ls L_62 245 (fun _ q => XS.astoreS X61.here hx rfl (hb hby at_243) rfl (own_ref_ref _ _ _ _) (own_cat1 (own_ref_ref _ _ _ _)) rfl hs11 q) ?_
    refine own_tp (own_ref oc aa0 a1 a2) 247 (fun _ q => XS.aload X61.here hx rfl (hb hby at_245) rfl (own_ref_ref _ _ _ _) q) ?_
    refine own_tp (own_ref oc aa0 a1 a2) 249 (fun _ q => XS.aload X61.here hx rfl (hb hby at_247) rfl (own_ref_ref _ _ _ _) q) ?_
    refine own_d2 254 (fun _ q => Jvm.RoadKit.acmp (g := (mkF m 249 L_62 [(own_ref oc aa0 a1 a2), (own_ref oc aa0 a1 a2)])) X61 hx rfl (own_ref_ref _ _ _ _) (own_ref_ref _ _ _ _) (pc0 := 249) (pc' := 254) (same := true) rfl (hb hby at_249) rfl (decide_eq_true rfl) (by decide) (by decide) q) ?_
    refine own_tp (.int mm) 256 (fun _ q => XS.iload X61.here hx rfl (hb hby at_254) rfl q) ?_
    by_cases c63 : mm = (0 : Int32)
    ·
      refine own_d1 266 (fun _ q => XS.ifYes X61.here hx rfl (pc0 := 256) (pc' := 266) rfl (hb hby at_256) rfl ((if0 _ _).trans (teq c63).1) (by decide) (by decide) q) ?_
      refine own_tp (own_ref oc aa0 a1 a2) 268 (fun _ q => XS.aload X61.here hx rfl (hb hby at_266) rfl (own_ref_ref _ _ _ _) q) ?_
      refine own_tp (.int kk) 270 (fun _ q => XS.iload X61.here hx rfl (hb hby at_268) rfl q) ?_
      obtain ⟨_, _, ⟨T64, L64, k64, n64⟩, -, X64, ⟨Lc64, hQ64, l64, y64, z64⟩, st64⟩ := Jvm.LawKit.callS X61 hx (y := (⟨"com/example/leastwise/leastwise/core/AuthorizableTypeOfPinLaw", "byIndex", "(I)Lcom/example/leastwise/leastwise/core/AuthorizableType;"⟩ : MethodName)) hown58 (mvT hZ58 (hw _ (List.mem_of_getElem? (i := 85) rfl))) (mvT hZ58 (hw _ (List.mem_of_getElem? (i := 86) rfl))) (mvT hZ58 (hw _ (List.mem_of_getElem? (i := 6) rfl))) (mvT hZ58 (hw _ (List.mem_of_getElem? (i := 87) rfl))) (by decide) (backOf (W := 1) (rm5 l Z a0 hw [] kk T61.heap n0 Z61 G1 P5 O61 Sc aa0 p0s v0s k0s S0 E0 F0 T0s a1 p1s v1s k1s S1 E1 F1 T1s a2 p2s v2s k2s S2 E2 F2 T2s av kv Sv Ev Vv) hZ58 (hw _ (List.mem_of_getElem? (i := 87) rfl)) (hw _ (List.mem_of_getElem? (i := 6) rfl)) (by decide) (by decide)) (g := (mkF m 270 L_62 [(.int kk), (own_ref oc aa0 a1 a2)])) rfl (by rw [hml]; rfl) (argsL := [(.int kk)]) (rest := [(own_ref oc aa0 a1 a2)]) (lenOf pd0_1 rfl) rfl (by show 2 * 0 + _ ≤ _; simp [own_cat1 (own_ref_ref _ _ _ _), own_catI, own_catJ, own_catR]) (hb hby at_270) (fun _ _ => ⟨rfl, rfl, (by decide : 17 + 0 ≤ _), (by decide : 259 + 0 ≤ _)⟩)
      dsimp only [Pt.U, Pt.locs, Pt.cells, Pt.slots] at X64 l64 y64 z64 st64 hQ64
      subst l64 y64 z64
      obtain ⟨rfl, Nq64, eq64⟩ := hQ64
      have N64 := Fr.app N61 Nq64
      refine own_t1 (.ref (own_by kk aa0 a1 a2)) 273 st64 ?_
      refine own_d2 276 (fun _ q => Jvm.RoadKit.acmp (g := (mkF m 273 L_62 [(.ref (own_by kk aa0 a1 a2)), (own_ref oc aa0 a1 a2)])) X64 hx rfl (own_ref_ref _ _ _ _) rfl (pc0 := 273) (pc' := 276) (same := true) rfl (hb hby at_273) rfl (decide_eq_true (by rw [hful (Or.inl c63)]; exact own_byL kk hk aa0 a1 a2)) (by decide) (by decide) q) ?_
      refine own_tp (.int (1 : Int32)) 277 (fun _ q => XS.iconst X64.here hx rfl (hb hby at_276) q) ?_
      refine own_d0 281 (fun _ q => XS.goto X64.here hx rfl (pc0 := 277) (pc' := 281) rfl (hb hby at_277) (by decide) (by decide) q) ?_
      exact own_retNW (t := .boolean) X64 hx hrt (hb hby at_281) (by simp) hlk (by decide) (by decide) eq64 Wd61 (⟨rfl, N64⟩)
    ·
      refine own_d1 259 (fun _ q => XS.ifNo X61.here hx rfl (hb hby at_256) rfl ((if0 _ _).trans (feq c63).1) q) ?_
      refine own_tp (.int mm) 261 (fun _ q => XS.iload X61.here hx rfl (hb hby at_259) rfl q) ?_
      refine own_tp (.int (7 : Int32)) 263 (fun _ q => XS.bipush X61.here hx rfl (hb hby at_261) q) ?_
      by_cases c65 : mm = (7 : Int32)
      ·
        refine own_d2 266 (fun _ q => XS.icmpNo X61.here hx rfl (hb hby at_263) rfl (teq c65).2 q) ?_
        refine own_tp (own_ref oc aa0 a1 a2) 268 (fun _ q => XS.aload X61.here hx rfl (hb hby at_266) rfl (own_ref_ref _ _ _ _) q) ?_
        refine own_tp (.int kk) 270 (fun _ q => XS.iload X61.here hx rfl (hb hby at_268) rfl q) ?_
        obtain ⟨_, _, ⟨T66, L66, k66, n66⟩, -, X66, ⟨Lc66, hQ66, l66, y66, z66⟩, st66⟩ := Jvm.LawKit.callS X61 hx (y := (⟨"com/example/leastwise/leastwise/core/AuthorizableTypeOfPinLaw", "byIndex", "(I)Lcom/example/leastwise/leastwise/core/AuthorizableType;"⟩ : MethodName)) hown58 (mvT hZ58 (hw _ (List.mem_of_getElem? (i := 85) rfl))) (mvT hZ58 (hw _ (List.mem_of_getElem? (i := 86) rfl))) (mvT hZ58 (hw _ (List.mem_of_getElem? (i := 6) rfl))) (mvT hZ58 (hw _ (List.mem_of_getElem? (i := 87) rfl))) (by decide) (backOf (W := 1) (rm5 l Z a0 hw [] kk T61.heap n0 Z61 G1 P5 O61 Sc aa0 p0s v0s k0s S0 E0 F0 T0s a1 p1s v1s k1s S1 E1 F1 T1s a2 p2s v2s k2s S2 E2 F2 T2s av kv Sv Ev Vv) hZ58 (hw _ (List.mem_of_getElem? (i := 87) rfl)) (hw _ (List.mem_of_getElem? (i := 6) rfl)) (by decide) (by decide)) (g := (mkF m 270 L_62 [(.int kk), (own_ref oc aa0 a1 a2)])) rfl (by rw [hml]; rfl) (argsL := [(.int kk)]) (rest := [(own_ref oc aa0 a1 a2)]) (lenOf pd0_1 rfl) rfl (by show 2 * 0 + _ ≤ _; simp [own_cat1 (own_ref_ref _ _ _ _), own_catI, own_catJ, own_catR]) (hb hby at_270) (fun _ _ => ⟨rfl, rfl, (by decide : 17 + 0 ≤ _), (by decide : 259 + 0 ≤ _)⟩)
        dsimp only [Pt.U, Pt.locs, Pt.cells, Pt.slots] at X66 l66 y66 z66 st66 hQ66
        subst l66 y66 z66
        obtain ⟨rfl, Nq66, eq66⟩ := hQ66
        have N66 := Fr.app N61 Nq66
        refine own_t1 (.ref (own_by kk aa0 a1 a2)) 273 st66 ?_
        refine own_d2 276 (fun _ q => Jvm.RoadKit.acmp (g := (mkF m 273 L_62 [(.ref (own_by kk aa0 a1 a2)), (own_ref oc aa0 a1 a2)])) X66 hx rfl (own_ref_ref _ _ _ _) rfl (pc0 := 273) (pc' := 276) (same := true) rfl (hb hby at_273) rfl (decide_eq_true (by rw [hful (Or.inr c65)]; exact own_byL kk hk aa0 a1 a2)) (by decide) (by decide) q) ?_
        refine own_tp (.int (1 : Int32)) 277 (fun _ q => XS.iconst X66.here hx rfl (hb hby at_276) q) ?_
        refine own_d0 281 (fun _ q => XS.goto X66.here hx rfl (pc0 := 277) (pc' := 281) rfl (hb hby at_277) (by decide) (by decide) q) ?_
        exact own_retNW (t := .boolean) X66 hx hrt (hb hby at_281) (by simp) hlk (by decide) (by decide) eq66 Wd61 (⟨rfl, N66⟩)
      ·
        refine own_d2 282 (fun _ q => XS.icmpYes X61.here hx rfl (pc0 := 263) (pc' := 282) rfl (hb hby at_263) rfl (feq c65).2 (by decide) (by decide) q) ?_
        refine own_tp (.int (1 : Int32)) 283 (fun _ q => XS.iconst X61.here hx rfl (hb hby at_282) q) ?_
        exact own_retNW (t := .boolean) X61 hx hrt (hb hby at_283) (by simp) hlk (by decide) (by decide) rfl Wd61 (⟨rfl, N61⟩)
  rcases hk with rfl | rfl | rfl
  ·
    refine own_tp (.int mm) 24 (fun _ q => XS.iload X0.here hx rfl (hb hby at_22) rfl q) ?_
    refine own_tp (.int (4 : Int32)) 25 (fun _ q => XS.iconst X0.here hx rfl (hb hby at_24) q) ?_
    by_cases c67 : mm = (4 : Int32)
    ·
      refine own_d2 28 (fun _ q => XS.icmpNo X0.here hx rfl (hb hby at_25) rfl (teq c67).2 q) ?_
      refine own_tp .null 29 (fun _ q => XS.aconstNull X0.here hx rfl (hb hby at_28) q) ?_
      let L_68 : Array Slot := #[.val (.int p0), .val (.int p1), .val (.int p2), .val (.int p3), .val (.int p4), .val (.int p5), .val (.int (0 : Int32)), .val (.int mm), .val (.int cc), .val .null, .unset, .unset]
      refine own_ls L_68 31 (fun _ q => XS.astore X0.here hx rfl (hb hby at_29) rfl rfl (l' := L_68) rfl q) ?_
      refine own_d0 231 (fun _ q => XS.goto X0.here hx rfl (pc0 := 31) (pc' := 231) rfl (hb hby at_31) (by decide) (by decide) q) ?_
      exact kj56 (.unset) (.unset) s₁ _ s.vm h0 .null (X0.more (by decide) (by decide)) N0 e0 Wd0 hown O0 Z0 rfl One.u One.u ⟨none, Or.inl ⟨rfl, rfl⟩, (fun q => by rcases q with q | q <;> (rw [c67] at q; exact absurd q (by decide)))⟩
    ·
      refine own_d2 34 (fun _ q => XS.icmpYes X0.here hx rfl (pc0 := 25) (pc' := 34) rfl (hb hby at_25) rfl (feq c67).2 (by decide) (by decide) q) ?_
      refine own_tp (.int mm) 36 (fun _ q => XS.iload X0.here hx rfl (hb hby at_34) rfl q) ?_
      refine own_tp (.int (5 : Int32)) 37 (fun _ q => XS.iconst X0.here hx rfl (hb hby at_36) q) ?_
      by_cases c69 : mm = (5 : Int32)
      ·
        refine own_d2 40 (fun _ q => XS.icmpNo X0.here hx rfl (hb hby at_37) rfl (teq c69).2 q) ?_
        refine own_tp (.int p4) 42 (fun _ q => XS.iload X0.here hx rfl (hb hby at_40) rfl q) ?_
        let L_70 : Array Slot := #[.val (.int p0), .val (.int p1), .val (.int p2), .val (.int p3), .val (.int p4), .val (.int p5), .val (.int (0 : Int32)), .val (.int mm), .val (.int cc), .unset, .unset, .unset]
        refine own_tp (.int (65536 : Int32)) 44 (fun _ q => X0.ldcInt hx hown (mvT hZ (hw _ (List.mem_of_getElem? (i := 88) rfl))) (g := (mkF m 42 L_70 [(.int p4)])) rfl (hb hby at_42) _ q) ?_
        refine own_t2 (.int (p4 &&& (65536 : Int32))) 45 (fun _ q => XS.iand X0.here hx rfl (hb hby at_44) rfl q) ?_
        by_cases c71 : (p4 &&& (65536 : Int32)) = (0 : Int32)
        ·
          refine own_d1 55 (fun _ q => XS.ifYes X0.here hx rfl (pc0 := 45) (pc' := 55) rfl (hb hby at_45) rfl ((if0 _ _).trans (teq c71).1) (by decide) (by decide) q) ?_
          obtain ⟨T72, h72, X72, e72, E72, A72, D72, -, st72⟩ := newO X0 hx hZ hown (hw _ (List.mem_of_getElem? (i := 1) rfl)) (hw _ (List.mem_of_getElem? (i := 2) rfl)) (hw _ (List.mem_of_getElem? (i := 3) rfl)) e0 (g := (mkF m 55 L_70 [])) rfl (hb hby at_55) (by decide) (by decide)
          obtain ⟨b72, g72⟩ : ∃ z, z = h0.size := ⟨_, rfl⟩
          rw [← g72] at A72 D72 st72
          have ge72 : n0 ≤ b72 := Nat.le_trans Z0 (Nat.le_of_eq g72.symm)
          have O72 := Old.ext O0 E72
          have Z72 : n0 ≤ h72.size := Nat.le_trans Z0 E72.1
          have Wd72 := Wd0.ext E72
          have G72 : Safe Z own_EL s.vm h72 b72 := Safe.ext E72 Wd0.chv (Safe.new (Nat.le_of_eq g72.symm))
          have Fcoder_72 : Fld Z h72 b72 "java/lang/String" "coder" "B" (.int (0 : Int32)) := D72 (Or.inr (hw _ (List.mem_of_getElem? (i := 32) rfl))) (ty := .byte) (by decide)
          have Fvalue_72 : Fld Z h72 b72 "java/lang/String" "value" "[B" .null := D72 (Or.inr (hw _ (List.mem_of_getElem? (i := 34) rfl))) (ty := (.array .byte)) (by decide)
          refine own_tp (.ref b72) 58 st72 ?_
          refine own_tp (.ref b72) 59 (fun _ q => XS.dup X72.here hx rfl (hb hby at_58) rfl rfl q) ?_
          refine own_tp (.int (3 : Int32)) 60 (fun _ q => XS.iconst X72.here hx rfl (hb hby at_59) q) ?_
          obtain ⟨T73, h73, k73, X73, e73, E73, A73, st73⟩ := newP X72 hx hZ (hw _ (List.mem_of_getElem? (i := 8) rfl)) e72 (g := (mkF m 60 L_70 [(.int (3 : Int32)), (.ref b72), (.ref b72)])) rfl (hb hby at_60) rfl (by decide) (cap := 3) (by decide) (by decide) (by decide) (by decide)
          obtain ⟨b73, g73⟩ : ∃ z, z = h72.size := ⟨_, rfl⟩
          rw [← g73] at A73 st73
          have V73 : Arv Z h73 b73 k73 .char (3 : Int32) [(.int (0 : Int32)), (.int (0 : Int32)), (.int (0 : Int32))] (.int (0 : Int32)) := (Arv.new A73 (by decide)).pad (pad_rep [] (.int (0 : Int32)) 3)
          have ge73 : n0 ≤ b73 := Nat.le_trans Z72 (Nat.le_of_eq g73.symm)
          have ne74 : b72 ≠ b73 := Nat.ne_of_lt (Nat.lt_of_lt_of_le A72.lt (Nat.le_of_eq g73.symm))
          have O73 := Old.ext O72 E73
          have Z73 : n0 ≤ h73.size := Nat.le_trans Z72 E73.1
          have Wd73 := Wd72.ext E73
          refine own_t1 (.ref b73) 62 st73 ?_
          refine own_tp (.ref b73) 63 (fun _ q => XS.dup X73.here hx rfl (hb hby at_62) rfl rfl q) ?_
          refine own_tp (.int (0 : Int32)) 64 (fun _ q => XS.iconst X73.here hx rfl (hb hby at_63) q) ?_
          refine own_tp (.int p4) 66 (fun _ q => XS.iload X73.here hx rfl (hb hby at_64) rfl q) ?_
          refine own_tp (.int (255 : Int32)) 69 (fun _ q => XS.sipush X73.here hx rfl (hb hby at_66) q) ?_
          refine own_t2 (.int (p4 &&& (255 : Int32))) 70 (fun _ q => XS.iand X73.here hx rfl (hb hby at_69) rfl q) ?_
          refine own_t1 (.int ((p4 &&& (255 : Int32)).toUInt32.toUInt16.toUInt32.toInt32)) 71 (fun _ q => XS.i2c X73.here hx rfl (hb hby at_70) rfl q) ?_
          obtain ⟨ca, eca, hca⟩ : ∃ z : Int32, ((p4 &&& (255 : Int32)).toUInt32.toUInt16.toUInt32.toInt32) = z ∧ (0 ≤ z.toInt ∧ z.toInt ≤ 255) := own_c255 p4
          rw [eca]
          obtain ⟨cl75, Ar75, q75, S75, Nn75, H75, G75⟩ := (id V73)
          have hin75 : ¬ ((0 : Int32) < 0 ∨ cl75.slots.size ≤ ((0 : Int32)).toNatClampNeg) := inb_of S75 ⟨by decide, by decide⟩
          obtain ⟨T76, h76, X76, e76, W76, st76⟩ := stC X73 hx hZ e73 Ar75 (j := (0 : Int32)) hin75 (g := (mkF m 71 L_70 [(.int ca), (.int (0 : Int32)), (.ref b73), (.ref b73), (.ref b72), (.ref b72)])) rfl rfl (hb hby at_71)
          have V76 := Arv.set Ar75 q75 S75 Nn75 H75 G75 (fits_nar_char _) W76 0 rfl (Nat.le_of_ble_eq_true rfl)
          have N76 := Fr.snoc X76 N0 ge73
          have O76 := Old.wr O73 W76 ge73
          have Z76 : n0 ≤ h76.size := Nat.le_trans Z73 (Nat.le_of_eq W76.size.symm)
          have Wd76 := Wd73.wr W76 (own_safeV hZ.alike V73 (by simp))
          have V76' : Arv Z h76 b73 k73 .char (3 : Int32) [(.int ca), (.int (0 : Int32)), (.int (0 : Int32))] (.int (0 : Int32)) := by have q := V76; first | (rw [own_narc (own_up hca)] at q; exact q) | (rw [own_i2c (own_up hca)] at q; exact q)
          refine own_cs [(.ref b73), (.ref b72), (.ref b72)] 72 st76 ?_
          refine own_tp (.ref b73) 73 (fun _ q => XS.dup X76.here hx rfl (hb hby at_72) rfl rfl q) ?_
          refine own_tp (.int (1 : Int32)) 74 (fun _ q => XS.iconst X76.here hx rfl (hb hby at_73) q) ?_
          refine own_tp (.int p5) 76 (fun _ q => XS.iload X76.here hx rfl (hb hby at_74) rfl q) ?_
          refine own_tp (.int (255 : Int32)) 79 (fun _ q => XS.sipush X76.here hx rfl (hb hby at_76) q) ?_
          refine own_t2 (.int (p5 &&& (255 : Int32))) 80 (fun _ q => XS.iand X76.here hx rfl (hb hby at_79) rfl q) ?_
          refine own_t1 (.int ((p5 &&& (255 : Int32)).toUInt32.toUInt16.toUInt32.toInt32)) 81 (fun _ q => XS.i2c X76.here hx rfl (hb hby at_80) rfl q) ?_
          obtain ⟨cb, ecb, hcb⟩ : ∃ z : Int32, ((p5 &&& (255 : Int32)).toUInt32.toUInt16.toUInt32.toInt32) = z ∧ (0 ≤ z.toInt ∧ z.toInt ≤ 255) := own_c255 p5
          rw [ecb]
          obtain ⟨cl77, Ar77, q77, S77, Nn77, H77, G77⟩ := (id V76')
          have hin77 : ¬ ((1 : Int32) < 0 ∨ cl77.slots.size ≤ ((1 : Int32)).toNatClampNeg) := inb_of S77 ⟨by decide, by decide⟩
          obtain ⟨T78, h78, X78, e78, W78, st78⟩ := stC X76 hx hZ e76 Ar77 (j := (1 : Int32)) hin77 (g := (mkF m 81 L_70 [(.int cb), (.int (1 : Int32)), (.ref b73), (.ref b73), (.ref b72), (.ref b72)])) rfl rfl (hb hby at_81)
          have V78 := Arv.set Ar77 q77 S77 Nn77 H77 G77 (fits_nar_char _) W78 1 rfl (Nat.le_of_ble_eq_true rfl)
          have N78 := Fr.snoc X78 N76 ge73
          have O78 := Old.wr O76 W78 ge73
          have Z78 : n0 ≤ h78.size := Nat.le_trans Z76 (Nat.le_of_eq W78.size.symm)
          have Wd78 := Wd76.wr W78 (own_safeV hZ.alike V76' (by simp))
          have V78' : Arv Z h78 b73 k73 .char (3 : Int32) [(.int ca), (.int cb), (.int (0 : Int32))] (.int (0 : Int32)) := by have q := V78; first | (rw [own_narc (own_up hcb)] at q; exact q) | (rw [own_i2c (own_up hcb)] at q; exact q)
          refine own_cs [(.ref b73), (.ref b72), (.ref b72)] 82 st78 ?_
          refine own_tp (.ref b73) 83 (fun _ q => XS.dup X78.here hx rfl (hb hby at_82) rfl rfl q) ?_
          refine own_tp (.int (2 : Int32)) 84 (fun _ q => XS.iconst X78.here hx rfl (hb hby at_83) q) ?_
          refine own_tp (.int cc) 86 (fun _ q => XS.iload X78.here hx rfl (hb hby at_84) rfl q) ?_
          obtain ⟨cl79, Ar79, q79, S79, Nn79, H79, G79⟩ := (id V78')
          have hin79 : ¬ ((2 : Int32) < 0 ∨ cl79.slots.size ≤ ((2 : Int32)).toNatClampNeg) := inb_of S79 ⟨by decide, by decide⟩
          obtain ⟨T80, h80, X80, e80, W80, st80⟩ := stC X78 hx hZ e78 Ar79 (j := (2 : Int32)) hin79 (g := (mkF m 86 L_70 [(.int cc), (.int (2 : Int32)), (.ref b73), (.ref b73), (.ref b72), (.ref b72)])) rfl rfl (hb hby at_86)
          have V80 := Arv.set Ar79 q79 S79 Nn79 H79 G79 (fits_nar_char _) W80 2 rfl (Nat.le_of_ble_eq_true rfl)
          have N80 := Fr.snoc X80 N78 ge73
          have O80 := Old.wr O78 W80 ge73
          have Z80 : n0 ≤ h80.size := Nat.le_trans Z78 (Nat.le_of_eq W80.size.symm)
          have Wd80 := Wd78.wr W80 (own_safeV hZ.alike V78' (by simp))
          have V80' : Arv Z h80 b73 k73 .char (3 : Int32) [(.int ca), (.int cb), (.int cc)] (.int (0 : Int32)) := by have q := V80; first | (rw [own_narc (own_up hcc)] at q; exact q) | (rw [own_i2c (own_up hcc)] at q; exact q)
          refine own_cs [(.ref b73), (.ref b72), (.ref b72)] 87 st80 ?_
          obtain ⟨Lz81, Xz81, Nz81⟩ : ∃ Lz, Stand p l e room_1 (s.setVm s.vm) m #[(.int p0), (.int p1), (.int p2), (.int p3), (.int p4), (.int p5)] below meth c T80 Lz 2 7 ∧ Fr n0 Lz := ⟨_, X80, N80⟩
          have f83 := (Safe.wr W80 (own_safeV hZ.alike V78' (by simp)) Wd78.chv (Safe.wr W78 (own_safeV hZ.alike V76' (by simp)) Wd76.chv (Safe.wr W76 (own_safeV hZ.alike V73 (by simp)) Wd73.chv (Safe.ext E73 Wd72.chv G72))))
          have hws : ∀ d ∈ StrChars.Road.words, d.before a0 Z = true := fun d hd => hw d ((by decide +kernel : ∀ d ∈ StrChars.Road.words, d ∈ tables_1) d hd)
          have hp82 : ∀ c ∈ ([ca, cb, cc] : List Int32), ¬ c < 0 ∧ ¬ (255 : Int32) < c := by
            intro c hc
            simp only [List.mem_cons, List.not_mem_nil, or_false] at hc
            rcases hc with rfl | rfl | rfl
            · exact own_ch hca
            · exact own_ch hcb
            · exact own_ch hcc
          have f84 := ((((A72.ext E73).wr W76).wr W78).wr W80)
          have f85 := ((((Fvalue_72.ext E73).other W76 (Or.inl ne74)).other W78 (Or.inl ne74)).other W80 (Or.inl ne74))
          have f86 := ((((Fcoder_72.ext E73).other W76 (Or.inl ne74)).other W78 (Or.inl ne74)).other W80 (Or.inl ne74))
          obtain ⟨_, _, ⟨T87, L87, k87, n87⟩, -, X87, ⟨Lc87, hQ87, l87, y87, z87⟩, st87⟩ := Xz81.specialBack hx (y := (⟨"java/lang/String", "<init>", "([C)V"⟩ : MethodName)) rfl hown (mvT hZ (hw _ (List.mem_of_getElem? (i := 9) rfl))) (mvT hZ (hw _ (List.mem_of_getElem? (i := 10) rfl))) (mvT hZ (hw _ (List.mem_of_getElem? (i := 11) rfl))) (by decide) (StrChars.Road.backV (W := 1) hZ hws (kI := 4) (hw _ (List.mem_of_getElem? (i := 2) rfl)) (cs := ([ca, cb, cc] : List Int32)) (bs := ([ca, cb, cc] : List Int32).map (fun c => c.toInt8.toInt32)) (n := 3) ge72 Z80 f84 f85 f86 V80' (Sc.ext O80.2) P5 rfl rfl (by decide) (by decide) hp82 rfl (by decide) (by decide)) (g := (mkF m 87 L_70 [(.ref b73), (.ref b72), (.ref b72)])) rfl (by rw [hml]; rfl) (Steps.refl _) (a := b72) (argsL := [(.ref b73)]) (rest := [(.ref b72)]) (lenOf pd0_2 rfl) rfl (by show 2 * 0 + _ ≤ _; exact Nat.le_of_eq rfl) (hb hby at_87) (fun _ _ => ⟨rfl, e80, (by decide : 2 + 1 ≤ _), (by decide : 7 + 3 ≤ _)⟩)
          dsimp only [Pt.U, Pt.locs, Pt.cells, Pt.slots] at X87 l87 y87 z87 st87 hQ87
          subst l87 y87 z87
          obtain ⟨rfl, Nq87, Kp87, A87, Cd87, t87, kb87, gt87, ht87, nt87, Vl87, V87⟩ := hQ87
          have N87 := Fr.app Nz81 Nq87
          have O87 := Old.keep O80 Kp87 (allS ge72 all0)
          have Z87 : n0 ≤ T87.heap.size := Nat.le_trans Z80 Kp87.1
          have Wd87 := Wd80.keep Kp87 (allS f83 all0)
          have Ts87 : own_St Z T87.heap b72 t87 kb87 ([ca, cb, cc] : List Int32) := ⟨A87, Vl87, Cd87, V87, hp82, by simp⟩
          refine own_csR [(.ref b72)] 90 st87 ?_
          let L_88 : Array Slot := #[.val (.int p0), .val (.int p1), .val (.int p2), .val (.int p3), .val (.int p4), .val (.int p5), .val (.int (0 : Int32)), .val (.int mm), .val (.int cc), .val (.ref b72), .unset, .unset]
          refine own_ls L_88 92 (fun _ q => XS.astore X87.here hx rfl (hb hby at_90) rfl rfl (l' := L_88) rfl q) ?_
          refine own_d0 231 (fun _ q => XS.goto X87.here hx rfl (pc0 := 92) (pc' := 231) rfl (hb hby at_92) (by decide) (by decide) q) ?_
          exact kj56 (.unset) (.unset) T87 _ s.vm T87.heap (.ref b72) (X87.more (by decide) (by decide)) N87 rfl Wd87 hown O87 Z87 rfl One.u One.u ⟨some _, Or.inr ⟨_, _, _, _, rfl, rfl, Ts87⟩, (fun q => by rcases q with q | q <;> (rw [c69] at q; exact absurd q (by decide)))⟩
        ·
          refine own_d1 48 (fun _ q => XS.ifNo X0.here hx rfl (hb hby at_45) rfl ((if0 _ _).trans (feq c71).1) q) ?_
          obtain ⟨b89, T89, h89, bb89, kk89, X89, e89, E89, Wd89, ho89, A89, Cd89, Vl89, V89, Ch89, Sf89, st89⟩ := own_ldc X0 hx Wd0 hown (hw _ (List.mem_of_getElem? (i := 91) rfl)) wS e0 (by simp [own_EL, x]) (vs := []) (z := (0 : Int32)) ⟨by decide, by decide⟩ (by decide) rfl (g := (mkF m 48 L_70 [])) rfl (hb hby at_48) (n := 0) (by decide) (by decide) (by decide) (by decide)
          have hZ89 : Z.Warmed39 (s.setVm T89.vm).vm := Wd89.hZ
          have hown89 : (s.setVm T89.vm).vm.findClass "com/example/leastwise/leastwise/core/AuthorizableTypeOfPinLaw" = some m.cls := ho89
          have O89 := Old.ext O0 E89
          have Z89 : n0 ≤ h89.size := Nat.le_trans Z0 E89.1
          have Tl89 : own_St Z h89 b89 bb89 kk89 ([] : List Int32) := ⟨A89, Vl89, Cd89, V89, by decide, by decide⟩
          refine own_tp (.ref b89) 50 st89 ?_
          let L_90 : Array Slot := #[.val (.int p0), .val (.int p1), .val (.int p2), .val (.int p3), .val (.int p4), .val (.int p5), .val (.int (0 : Int32)), .val (.int mm), .val (.int cc), .val (.ref b89), .unset, .unset]
          refine own_ls L_90 52 (fun _ q => XS.astore X89.here hx rfl (hb hby at_50) rfl rfl (l' := L_90) rfl q) ?_
          refine own_d0 231 (fun _ q => XS.goto X89.here hx rfl (pc0 := 52) (pc' := 231) rfl (hb hby at_52) (by decide) (by decide) q) ?_
          exact kj56 (.unset) (.unset) T89 _ T89.vm h89 (.ref b89) (X89.more (by decide) (by decide)) N0 e89 Wd89 hown89 O89 Z89 rfl One.u One.u ⟨some _, Or.inr ⟨_, _, _, _, rfl, rfl, Tl89⟩, (fun q => by rcases q with q | q <;> (rw [c69] at q; exact absurd q (by decide)))⟩
      ·
        refine own_d2 95 (fun _ q => XS.icmpYes X0.here hx rfl (pc0 := 37) (pc' := 95) rfl (hb hby at_37) rfl (feq c69).2 (by decide) (by decide) q) ?_
        refine own_tp (.int mm) 97 (fun _ q => XS.iload X0.here hx rfl (hb hby at_95) rfl q) ?_
        refine own_tp (.int (2 : Int32)) 98 (fun _ q => XS.iconst X0.here hx rfl (hb hby at_97) q) ?_
        by_cases c91 : mm = (2 : Int32)
        ·
          refine own_d2 101 (fun _ q => XS.icmpNo X0.here hx rfl (hb hby at_98) rfl (teq c91).2 q) ?_
          refine own_tp (.int (0 : Int32)) 103 (fun _ q => XS.iload X0.here hx rfl (hb hby at_101) rfl q) ?_
          let L_92 : Array Slot := #[.val (.int p0), .val (.int p1), .val (.int p2), .val (.int p3), .val (.int p4), .val (.int p5), .val (.int (0 : Int32)), .val (.int mm), .val (.int cc), .unset, .unset, .unset]
          obtain ⟨_, _, ⟨T93, L93, k93, n93⟩, -, X93, ⟨Lc93, hQ93, l93, y93, z93⟩, st93⟩ := Jvm.LawKit.callS X0 hx (y := (⟨"com/example/leastwise/leastwise/core/AuthorizableTypeOfPinLaw", "extended", "(I)[C"⟩ : MethodName)) hown (mvT hZ (hw _ (List.mem_of_getElem? (i := 78) rfl))) (mvT hZ (hw _ (List.mem_of_getElem? (i := 79) rfl))) (mvT hZ (hw _ (List.mem_of_getElem? (i := 6) rfl))) (mvT hZ (hw _ (List.mem_of_getElem? (i := 80) rfl))) (by decide) (backOf (W := 0) (rm11 l Z a0 hw [] h0 n0 Z0) hZ (hw _ (List.mem_of_getElem? (i := 80) rfl)) (hw _ (List.mem_of_getElem? (i := 6) rfl)) (by decide) (by decide)) (g := (mkF m 103 L_92 [(.int (0 : Int32))])) rfl (by rw [hml]; rfl) (argsL := [(.int (0 : Int32))]) (rest := []) (lenOf pd0_3 rfl) rfl (by show 2 * 0 + _ ≤ _; exact Nat.le_of_eq rfl) (hb hby at_103) (fun _ _ => ⟨rfl, e0, (by decide : 0 + 1 ≤ _), (by decide : 0 + 15 ≤ _)⟩)
          dsimp only [Pt.U, Pt.locs, Pt.cells, Pt.slots] at X93 l93 y93 z93 st93 hQ93
          subst l93 y93 z93
          obtain ⟨cb93, kc93, rfl, Nq93, Kp93, ge93, sz93, V93⟩ := hQ93
          have N93 := Fr.app N0 Nq93
          have O93 := Old.keep O0 Kp93 all0
          have Z93 : n0 ≤ T93.heap.size := Nat.le_trans Z0 Kp93.1
          have Wd93 := Wd0.keep Kp93 all0
          refine own_t1 (.ref cb93) 106 st93 ?_
          let L_94 : Array Slot := #[.val (.int p0), .val (.int p1), .val (.int p2), .val (.int p3), .val (.int p4), .val (.int p5), .val (.int (0 : Int32)), .val (.int mm), .val (.int cc), .unset, .val (.ref cb93), .unset]
          refine own_ls L_94 108 (fun _ q => XS.astore X93.here hx rfl (hb hby at_106) rfl rfl (l' := L_94) rfl q) ?_
          refine own_tp (.ref cb93) 110 (fun _ q => XS.aload X93.here hx rfl (hb hby at_108) rfl rfl q) ?_
          refine own_tp (.ref cb93) 112 (fun _ q => XS.aload X93.here hx rfl (hb hby at_110) rfl rfl q) ?_
          obtain ⟨cl95, Ar95, -, Sz95, Nn95, -, -⟩ := (id V93)
          refine own_t1 (.int (15 : Int32)) 113 (fun t q => X93.arraylength hx Ar95.1 (State.isArrayOf_alike hZ.alike Ar95.2.1) (g := (mkF m 112 L_94 [(.ref cb93), (.ref cb93)])) rfl rfl (hb hby at_112) _ (by rw [len_of Sz95 Nn95]; exact q)) ?_
          refine own_tp (.int (1 : Int32)) 114 (fun _ q => XS.iconst X93.here hx rfl (hb hby at_113) q) ?_
          refine own_t2 (.int (14 : Int32)) 115 (fun _ q => XS.isub X93.here hx rfl (hb hby at_114) rfl q) ?_
          refine own_tp (.int cc) 117 (fun _ q => XS.iload X93.here hx rfl (hb hby at_115) rfl q) ?_
          obtain ⟨cl96, Ar96, q96, S96, Nn96, H96, G96⟩ := (id V93)
          have hin96 : ¬ ((14 : Int32) < 0 ∨ cl96.slots.size ≤ ((14 : Int32)).toNatClampNeg) := inb_of S96 ⟨by decide, by decide⟩
          obtain ⟨T97, h97, X97, e97, W97, st97⟩ := stC X93 hx hZ rfl Ar96 (j := (14 : Int32)) hin96 (g := (mkF m 117 L_94 [(.int cc), (.int (14 : Int32)), (.ref cb93)])) rfl rfl (hb hby at_117)
          have V97 := Arv.set Ar96 q96 S96 Nn96 H96 G96 (fits_nar_char _) W97 14 rfl (Nat.le_of_ble_eq_true rfl)
          have N97 := Fr.snoc X97 N93 ge93
          have O97 := Old.wr O93 W97 ge93
          have Z97 : n0 ≤ h97.size := Nat.le_trans Z93 (Nat.le_of_eq W97.size.symm)
          have Wd97 := Wd93.wr W97 (own_safeV hZ.alike V93 (by simp))
          have V97' : Arv Z h97 cb93 kc93 .char (15 : Int32) [(.int (114 : Int32)), (.int (101 : Int32)), (.int (112 : Int32)), (.int (58 : Int32)), (.int (83 : Int32)), (.int (121 : Int32)), (.int (115 : Int32)), (.int (116 : Int32)), (.int (101 : Int32)), (.int (109 : Int32)), (.int (85 : Int32)), (.int (115 : Int32)), (.int (101 : Int32)), (.int (114 : Int32)), (.int cc)] (.int (0 : Int32)) := by have q := V97; first | (rw [own_narc (own_up hcc)] at q; exact q) | (rw [own_i2c (own_up hcc)] at q; exact q)
          refine own_cs [] 118 st97 ?_
          obtain ⟨T98, h98, X98, e98, E98, A98, D98, -, st98⟩ := newO X97 hx hZ hown (hw _ (List.mem_of_getElem? (i := 1) rfl)) (hw _ (List.mem_of_getElem? (i := 2) rfl)) (hw _ (List.mem_of_getElem? (i := 3) rfl)) e97 (g := (mkF m 118 L_94 [])) rfl (hb hby at_118) (by decide) (by decide)
          obtain ⟨b98, g98⟩ : ∃ z, z = h97.size := ⟨_, rfl⟩
          rw [← g98] at A98 D98 st98
          have ge98 : n0 ≤ b98 := Nat.le_trans Z97 (Nat.le_of_eq g98.symm)
          have ne99 : cb93 ≠ b98 := Nat.ne_of_lt (Nat.lt_of_lt_of_le V97'.lt (Nat.le_of_eq g98.symm))
          have O98 := Old.ext O97 E98
          have Z98 : n0 ≤ h98.size := Nat.le_trans Z97 E98.1
          have Wd98 := Wd97.ext E98
          have G98 : Safe Z own_EL s.vm h98 b98 := Safe.ext E98 Wd97.chv (Safe.new (Nat.le_of_eq g98.symm))
          have Fcoder_98 : Fld Z h98 b98 "java/lang/String" "coder" "B" (.int (0 : Int32)) := D98 (Or.inr (hw _ (List.mem_of_getElem? (i := 32) rfl))) (ty := .byte) (by decide)
          have Fvalue_98 : Fld Z h98 b98 "java/lang/String" "value" "[B" .null := D98 (Or.inr (hw _ (List.mem_of_getElem? (i := 34) rfl))) (ty := (.array .byte)) (by decide)
          refine own_tp (.ref b98) 121 st98 ?_
          refine own_tp (.ref b98) 122 (fun _ q => XS.dup X98.here hx rfl (hb hby at_121) rfl rfl q) ?_
          refine own_tp (.ref cb93) 124 (fun _ q => XS.aload X98.here hx rfl (hb hby at_122) rfl rfl q) ?_
          have hws : ∀ d ∈ StrChars.Road.words, d.before a0 Z = true := fun d hd => hw d ((by decide +kernel : ∀ d ∈ StrChars.Road.words, d ∈ tables_1) d hd)
          have f101 := (V97'.ext E98)
          have hp100 : ∀ c ∈ ([(114 : Int32), (101 : Int32), (112 : Int32), (58 : Int32), (83 : Int32), (121 : Int32), (115 : Int32), (116 : Int32), (101 : Int32), (109 : Int32), (85 : Int32), (115 : Int32), (101 : Int32), (114 : Int32), cc] : List Int32), ¬ c < 0 ∧ ¬ (255 : Int32) < c := by
            intro c hc
            simp only [List.mem_cons, List.not_mem_nil, or_false] at hc
            rcases hc with rfl | rfl | rfl | rfl | rfl | rfl | rfl | rfl | rfl | rfl | rfl | rfl | rfl | rfl | rfl
            · exact (by decide)
            · exact (by decide)
            · exact (by decide)
            · exact (by decide)
            · exact (by decide)
            · exact (by decide)
            · exact (by decide)
            · exact (by decide)
            · exact (by decide)
            · exact (by decide)
            · exact (by decide)
            · exact (by decide)
            · exact (by decide)
            · exact (by decide)
            · exact own_ch hcc
          obtain ⟨_, _, ⟨T102, L102, k102, n102⟩, -, X102, ⟨Lc102, hQ102, l102, y102, z102⟩, st102⟩ := X98.specialBack hx (y := (⟨"java/lang/String", "<init>", "([C)V"⟩ : MethodName)) rfl hown (mvT hZ (hw _ (List.mem_of_getElem? (i := 9) rfl))) (mvT hZ (hw _ (List.mem_of_getElem? (i := 10) rfl))) (mvT hZ (hw _ (List.mem_of_getElem? (i := 11) rfl))) (by decide) (StrChars.Road.backV (W := 1) hZ hws (kI := 4) (hw _ (List.mem_of_getElem? (i := 2) rfl)) (cs := ([(114 : Int32), (101 : Int32), (112 : Int32), (58 : Int32), (83 : Int32), (121 : Int32), (115 : Int32), (116 : Int32), (101 : Int32), (109 : Int32), (85 : Int32), (115 : Int32), (101 : Int32), (114 : Int32), cc] : List Int32)) (bs := ([(114 : Int32), (101 : Int32), (112 : Int32), (58 : Int32), (83 : Int32), (121 : Int32), (115 : Int32), (116 : Int32), (101 : Int32), (109 : Int32), (85 : Int32), (115 : Int32), (101 : Int32), (114 : Int32), cc] : List Int32).map (fun c => c.toInt8.toInt32)) (n := 15) ge98 Z98 A98 Fvalue_98 Fcoder_98 f101 (Sc.ext O98.2) P5 rfl rfl (by decide) (by decide) hp100 rfl (by decide) (by decide)) (g := (mkF m 124 L_94 [(.ref cb93), (.ref b98), (.ref b98)])) rfl (by rw [hml]; rfl) (Steps.refl _) (a := b98) (argsL := [(.ref cb93)]) (rest := [(.ref b98)]) (lenOf pd0_2 rfl) rfl (by show 2 * 0 + _ ≤ _; exact Nat.le_of_eq rfl) (hb hby at_124) (fun _ _ => ⟨rfl, e98, (by decide : 2 + 1 ≤ _), (by decide : 19 + 15 ≤ _)⟩)
          dsimp only [Pt.U, Pt.locs, Pt.cells, Pt.slots] at X102 l102 y102 z102 st102 hQ102
          subst l102 y102 z102
          obtain ⟨rfl, Nq102, Kp102, A102, Cd102, t102, kb102, gt102, ht102, nt102, Vl102, V102⟩ := hQ102
          have N102 := Fr.app N97 Nq102
          have O102 := Old.keep O98 Kp102 (allS ge98 all0)
          have Z102 : n0 ≤ T102.heap.size := Nat.le_trans Z98 Kp102.1
          have Wd102 := Wd98.keep Kp102 (allS G98 all0)
          have Ts102 : own_St Z T102.heap b98 t102 kb102 ([(114 : Int32), (101 : Int32), (112 : Int32), (58 : Int32), (83 : Int32), (121 : Int32), (115 : Int32), (116 : Int32), (101 : Int32), (109 : Int32), (85 : Int32), (115 : Int32), (101 : Int32), (114 : Int32), cc] : List Int32) := ⟨A102, Vl102, Cd102, V102, hp100, by simp⟩
          refine own_csR [(.ref b98)] 127 st102 ?_
          let L_103 : Array Slot := #[.val (.int p0), .val (.int p1), .val (.int p2), .val (.int p3), .val (.int p4), .val (.int p5), .val (.int (0 : Int32)), .val (.int mm), .val (.int cc), .val (.ref b98), .val (.ref cb93), .unset]
          refine own_ls L_103 129 (fun _ q => XS.astore X102.here hx rfl (hb hby at_127) rfl rfl (l' := L_103) rfl q) ?_
          refine own_d0 231 (fun _ q => XS.goto X102.here hx rfl (pc0 := 129) (pc' := 231) rfl (hb hby at_129) (by decide) (by decide) q) ?_
          exact kj56 (.val (.ref cb93)) (.unset) T102 _ s.vm T102.heap (.ref b98) (X102.more (by decide) (by decide)) N102 rfl Wd102 hown O102 Z102 rfl (One.val rfl) One.u ⟨some _, Or.inr ⟨_, _, _, _, rfl, rfl, Ts102⟩, (fun q => by rcases q with q | q <;> (rw [c91] at q; exact absurd q (by decide)))⟩
        ·
          refine own_d2 132 (fun _ q => XS.icmpYes X0.here hx rfl (pc0 := 98) (pc' := 132) rfl (hb hby at_98) rfl (feq c91).2 (by decide) (by decide) q) ?_
          refine own_tp (.int mm) 134 (fun _ q => XS.iload X0.here hx rfl (hb hby at_132) rfl q) ?_
          refine own_tp (.int (3 : Int32)) 135 (fun _ q => XS.iconst X0.here hx rfl (hb hby at_134) q) ?_
          by_cases c104 : mm = (3 : Int32)
          ·
            refine own_d2 138 (fun _ q => XS.icmpNo X0.here hx rfl (hb hby at_135) rfl (teq c104).2 q) ?_
            let L_105 : Array Slot := #[.val (.int p0), .val (.int p1), .val (.int p2), .val (.int p3), .val (.int p4), .val (.int p5), .val (.int (0 : Int32)), .val (.int mm), .val (.int cc), .unset, .unset, .unset]
            obtain ⟨T106, h106, X106, e106, E106, A106, D106, -, st106⟩ := newO X0 hx hZ hown (hw _ (List.mem_of_getElem? (i := 1) rfl)) (hw _ (List.mem_of_getElem? (i := 2) rfl)) (hw _ (List.mem_of_getElem? (i := 3) rfl)) e0 (g := (mkF m 138 L_105 [])) rfl (hb hby at_138) (by decide) (by decide)
            obtain ⟨b106, g106⟩ : ∃ z, z = h0.size := ⟨_, rfl⟩
            rw [← g106] at A106 D106 st106
            have ge106 : n0 ≤ b106 := Nat.le_trans Z0 (Nat.le_of_eq g106.symm)
            have O106 := Old.ext O0 E106
            have Z106 : n0 ≤ h106.size := Nat.le_trans Z0 E106.1
            have Wd106 := Wd0.ext E106
            have G106 : Safe Z own_EL s.vm h106 b106 := Safe.ext E106 Wd0.chv (Safe.new (Nat.le_of_eq g106.symm))
            have Fcoder_106 : Fld Z h106 b106 "java/lang/String" "coder" "B" (.int (0 : Int32)) := D106 (Or.inr (hw _ (List.mem_of_getElem? (i := 32) rfl))) (ty := .byte) (by decide)
            have Fvalue_106 : Fld Z h106 b106 "java/lang/String" "value" "[B" .null := D106 (Or.inr (hw _ (List.mem_of_getElem? (i := 34) rfl))) (ty := (.array .byte)) (by decide)
            refine own_tp (.ref b106) 141 st106 ?_
            refine own_tp (.ref b106) 142 (fun _ q => XS.dup X106.here hx rfl (hb hby at_141) rfl rfl q) ?_
            refine own_tp (.int (0 : Int32)) 144 (fun _ q => XS.iload X106.here hx rfl (hb hby at_142) rfl q) ?_
            refine own_tp (.int p2) 145 (fun _ q => XS.iloadN X106.here hx rfl (hb hby at_144) rfl q) ?_
            refine own_tp (.int (1 : Int32)) 146 (fun _ q => XS.iconst X106.here hx rfl (hb hby at_145) q) ?_
            refine own_t2 (.int (p2 &&& (1 : Int32))) 147 (fun _ q => XS.iand X106.here hx rfl (hb hby at_146) rfl q) ?_
            by_cases c107 : (p2 &&& (1 : Int32)) = (0 : Int32)
            ·
              refine own_d1 154 (fun _ q => XS.ifYes X106.here hx rfl (pc0 := 147) (pc' := 154) rfl (hb hby at_147) rfl ((if0 _ _).trans (teq c107).1) (by decide) (by decide) q) ?_
              refine own_tp (.int (0 : Int32)) 155 (fun _ q => XS.iconst X106.here hx rfl (hb hby at_154) q) ?_
              obtain ⟨_, _, ⟨T108, L108, k108, n108⟩, -, X108, ⟨Lc108, hQ108, l108, y108, z108⟩, st108⟩ := Jvm.LawKit.callS X106 hx (y := (⟨"com/example/leastwise/leastwise/core/AuthorizableTypeOfPinLaw", "truncated", "(IZ)[C"⟩ : MethodName)) hown (mvT hZ (hw _ (List.mem_of_getElem? (i := 4) rfl))) (mvT hZ (hw _ (List.mem_of_getElem? (i := 5) rfl))) (mvT hZ (hw _ (List.mem_of_getElem? (i := 6) rfl))) (mvT hZ (hw _ (List.mem_of_getElem? (i := 7) rfl))) (by decide) (backOf (W := 2) (rm13 l Z a0 hw [] h106 n0 Z106) hZ (hw _ (List.mem_of_getElem? (i := 7) rfl)) (hw _ (List.mem_of_getElem? (i := 6) rfl)) (by decide) (by decide)) (g := (mkF m 155 L_105 [(.int (0 : Int32)), (.int (0 : Int32)), (.ref b106), (.ref b106)])) rfl (by rw [hml]; rfl) (argsL := [(.int (0 : Int32)), (.int (0 : Int32))]) (rest := [(.ref b106), (.ref b106)]) (lenOf pd0_4 rfl) rfl (by show 2 * 0 + _ ≤ _; exact Nat.le_of_eq rfl) (hb hby at_155) (fun _ _ => ⟨rfl, e106, (by decide : 1 + 1 ≤ _), (by decide : 4 + 13 ≤ _)⟩)
              dsimp only [Pt.U, Pt.locs, Pt.cells, Pt.slots] at X108 l108 y108 z108 st108 hQ108
              subst l108 y108 z108
              obtain ⟨cb108, kc108, rfl, Nq108, Kp108, ge108, sz108, V108⟩ := hQ108
              have ne109 : b106 ≠ cb108 := Nat.ne_of_lt (Nat.lt_of_lt_of_le A106.lt sz108)
              have N108 := Fr.app N0 Nq108
              have O108 := Old.keep O106 Kp108 all0
              have Z108 : n0 ≤ T108.heap.size := Nat.le_trans Z106 Kp108.1
              have Wd108 := Wd106.keep Kp108 all0
              refine own_t2 (.ref cb108) 158 st108 ?_
              have f111 := (Safe.keep Kp108 all0 Wd106.chv G106)
              have hws : ∀ d ∈ StrChars.Road.words, d.before a0 Z = true := fun d hd => hw d ((by decide +kernel : ∀ d ∈ StrChars.Road.words, d ∈ tables_1) d hd)
              have hp110 : ∀ c ∈ ([(114 : Int32), (101 : Int32), (112 : Int32), (58 : Int32), (83 : Int32), (121 : Int32), (115 : Int32), (116 : Int32), (101 : Int32), (109 : Int32), (85 : Int32), (115 : Int32), (101 : Int32)] : List Int32), ¬ c < 0 ∧ ¬ (255 : Int32) < c := by
                intro c hc
                simp only [List.mem_cons, List.not_mem_nil, or_false] at hc
                rcases hc with rfl | rfl | rfl | rfl | rfl | rfl | rfl | rfl | rfl | rfl | rfl | rfl | rfl
                · exact (by decide)
                · exact (by decide)
                · exact (by decide)
                · exact (by decide)
                · exact (by decide)
                · exact (by decide)
                · exact (by decide)
                · exact (by decide)
                · exact (by decide)
                · exact (by decide)
                · exact (by decide)
                · exact (by decide)
                · exact (by decide)
              have f112 := (A106.keep Kp108)
              have f113 := (Fvalue_106.keep Kp108 nin0)
              have f114 := (Fcoder_106.keep Kp108 nin0)
              obtain ⟨_, _, ⟨T115, L115, k115, n115⟩, -, X115, ⟨Lc115, hQ115, l115, y115, z115⟩, st115⟩ := X108.specialBack hx (y := (⟨"java/lang/String", "<init>", "([C)V"⟩ : MethodName)) rfl hown (mvT hZ (hw _ (List.mem_of_getElem? (i := 9) rfl))) (mvT hZ (hw _ (List.mem_of_getElem? (i := 10) rfl))) (mvT hZ (hw _ (List.mem_of_getElem? (i := 11) rfl))) (by decide) (StrChars.Road.backV (W := 1) hZ hws (kI := 4) (hw _ (List.mem_of_getElem? (i := 2) rfl)) (cs := ([(114 : Int32), (101 : Int32), (112 : Int32), (58 : Int32), (83 : Int32), (121 : Int32), (115 : Int32), (116 : Int32), (101 : Int32), (109 : Int32), (85 : Int32), (115 : Int32), (101 : Int32)] : List Int32)) (bs := ([(114 : Int32), (101 : Int32), (112 : Int32), (58 : Int32), (83 : Int32), (121 : Int32), (115 : Int32), (116 : Int32), (101 : Int32), (109 : Int32), (85 : Int32), (115 : Int32), (101 : Int32)] : List Int32).map (fun c => c.toInt8.toInt32)) (n := 13) ge106 Z108 f112 f113 f114 V108 (Sc.ext O108.2) P5 rfl rfl (by decide) (by decide) hp110 rfl (by decide) (by decide)) (g := (mkF m 158 L_105 [(.ref cb108), (.ref b106), (.ref b106)])) rfl (by rw [hml]; rfl) (Steps.refl _) (a := b106) (argsL := [(.ref cb108)]) (rest := [(.ref b106)]) (lenOf pd0_2 rfl) rfl (by show 2 * 0 + _ ≤ _; exact Nat.le_of_eq rfl) (hb hby at_158) (fun _ _ => ⟨rfl, rfl, (by decide : 2 + 1 ≤ _), (by decide : 17 + 13 ≤ _)⟩)
              dsimp only [Pt.U, Pt.locs, Pt.cells, Pt.slots] at X115 l115 y115 z115 st115 hQ115
              subst l115 y115 z115
              obtain ⟨rfl, Nq115, Kp115, A115, Cd115, t115, kb115, gt115, ht115, nt115, Vl115, V115⟩ := hQ115
              have N115 := Fr.app N108 Nq115
              have O115 := Old.keep O108 Kp115 (allS ge106 all0)
              have Z115 : n0 ≤ T115.heap.size := Nat.le_trans Z108 Kp115.1
              have Wd115 := Wd108.keep Kp115 (allS f111 all0)
              have Ts115 : own_St Z T115.heap b106 t115 kb115 ([(114 : Int32), (101 : Int32), (112 : Int32), (58 : Int32), (83 : Int32), (121 : Int32), (115 : Int32), (116 : Int32), (101 : Int32), (109 : Int32), (85 : Int32), (115 : Int32), (101 : Int32)] : List Int32) := ⟨A115, Vl115, Cd115, V115, hp110, by simp⟩
              refine own_csR [(.ref b106)] 161 st115 ?_
              let L_116 : Array Slot := #[.val (.int p0), .val (.int p1), .val (.int p2), .val (.int p3), .val (.int p4), .val (.int p5), .val (.int (0 : Int32)), .val (.int mm), .val (.int cc), .val (.ref b106), .unset, .unset]
              refine own_ls L_116 163 (fun _ q => XS.astore X115.here hx rfl (hb hby at_161) rfl rfl (l' := L_116) rfl q) ?_
              refine own_d0 231 (fun _ q => XS.goto X115.here hx rfl (pc0 := 163) (pc' := 231) rfl (hb hby at_163) (by decide) (by decide) q) ?_
              exact kj56 (.unset) (.unset) T115 _ s.vm T115.heap (.ref b106) (X115.more (by decide) (by decide)) N115 rfl Wd115 hown O115 Z115 rfl One.u One.u ⟨some _, Or.inr ⟨_, _, _, _, rfl, rfl, Ts115⟩, (fun q => by rcases q with q | q <;> (rw [c104] at q; exact absurd q (by decide)))⟩
            ·
              refine own_d1 150 (fun _ q => XS.ifNo X106.here hx rfl (hb hby at_147) rfl ((if0 _ _).trans (feq c107).1) q) ?_
              refine own_tp (.int (1 : Int32)) 151 (fun _ q => XS.iconst X106.here hx rfl (hb hby at_150) q) ?_
              refine own_d0 155 (fun _ q => XS.goto X106.here hx rfl (pc0 := 151) (pc' := 155) rfl (hb hby at_151) (by decide) (by decide) q) ?_
              obtain ⟨_, _, ⟨T117, L117, k117, n117⟩, -, X117, ⟨Lc117, hQ117, l117, y117, z117⟩, st117⟩ := Jvm.LawKit.callS X106 hx (y := (⟨"com/example/leastwise/leastwise/core/AuthorizableTypeOfPinLaw", "truncated", "(IZ)[C"⟩ : MethodName)) hown (mvT hZ (hw _ (List.mem_of_getElem? (i := 4) rfl))) (mvT hZ (hw _ (List.mem_of_getElem? (i := 5) rfl))) (mvT hZ (hw _ (List.mem_of_getElem? (i := 6) rfl))) (mvT hZ (hw _ (List.mem_of_getElem? (i := 7) rfl))) (by decide) (backOf (W := 2) (rm12 l Z a0 hw [] h106 n0 Z106) hZ (hw _ (List.mem_of_getElem? (i := 7) rfl)) (hw _ (List.mem_of_getElem? (i := 6) rfl)) (by decide) (by decide)) (g := (mkF m 155 L_105 [(.int (1 : Int32)), (.int (0 : Int32)), (.ref b106), (.ref b106)])) rfl (by rw [hml]; rfl) (argsL := [(.int (0 : Int32)), (.int (1 : Int32))]) (rest := [(.ref b106), (.ref b106)]) (lenOf pd0_4 rfl) rfl (by show 2 * 0 + _ ≤ _; exact Nat.le_of_eq rfl) (hb hby at_155) (fun _ _ => ⟨rfl, e106, (by decide : 1 + 1 ≤ _), (by decide : 4 + 13 ≤ _)⟩)
              dsimp only [Pt.U, Pt.locs, Pt.cells, Pt.slots] at X117 l117 y117 z117 st117 hQ117
              subst l117 y117 z117
              obtain ⟨cb117, kc117, rfl, Nq117, Kp117, ge117, sz117, V117⟩ := hQ117
              have ne118 : b106 ≠ cb117 := Nat.ne_of_lt (Nat.lt_of_lt_of_le A106.lt sz117)
              have N117 := Fr.app N0 Nq117
              have O117 := Old.keep O106 Kp117 all0
              have Z117 : n0 ≤ T117.heap.size := Nat.le_trans Z106 Kp117.1
              have Wd117 := Wd106.keep Kp117 all0
              refine own_t2 (.ref cb117) 158 st117 ?_
              have f120 := (Safe.keep Kp117 all0 Wd106.chv G106)
              have hws : ∀ d ∈ StrChars.Road.words, d.before a0 Z = true := fun d hd => hw d ((by decide +kernel : ∀ d ∈ StrChars.Road.words, d ∈ tables_1) d hd)
              have hp119 : ∀ c ∈ ([(101 : Int32), (112 : Int32), (58 : Int32), (83 : Int32), (121 : Int32), (115 : Int32), (116 : Int32), (101 : Int32), (109 : Int32), (85 : Int32), (115 : Int32), (101 : Int32), (114 : Int32)] : List Int32), ¬ c < 0 ∧ ¬ (255 : Int32) < c := by
                intro c hc
                simp only [List.mem_cons, List.not_mem_nil, or_false] at hc
                rcases hc with rfl | rfl | rfl | rfl | rfl | rfl | rfl | rfl | rfl | rfl | rfl | rfl | rfl
                · exact (by decide)
                · exact (by decide)
                · exact (by decide)
                · exact (by decide)
                · exact (by decide)
                · exact (by decide)
                · exact (by decide)
                · exact (by decide)
                · exact (by decide)
                · exact (by decide)
                · exact (by decide)
                · exact (by decide)
                · exact (by decide)
              have f121 := (A106.keep Kp117)
              have f122 := (Fvalue_106.keep Kp117 nin0)
              have f123 := (Fcoder_106.keep Kp117 nin0)
              obtain ⟨_, _, ⟨T124, L124, k124, n124⟩, -, X124, ⟨Lc124, hQ124, l124, y124, z124⟩, st124⟩ := X117.specialBack hx (y := (⟨"java/lang/String", "<init>", "([C)V"⟩ : MethodName)) rfl hown (mvT hZ (hw _ (List.mem_of_getElem? (i := 9) rfl))) (mvT hZ (hw _ (List.mem_of_getElem? (i := 10) rfl))) (mvT hZ (hw _ (List.mem_of_getElem? (i := 11) rfl))) (by decide) (StrChars.Road.backV (W := 1) hZ hws (kI := 4) (hw _ (List.mem_of_getElem? (i := 2) rfl)) (cs := ([(101 : Int32), (112 : Int32), (58 : Int32), (83 : Int32), (121 : Int32), (115 : Int32), (116 : Int32), (101 : Int32), (109 : Int32), (85 : Int32), (115 : Int32), (101 : Int32), (114 : Int32)] : List Int32)) (bs := ([(101 : Int32), (112 : Int32), (58 : Int32), (83 : Int32), (121 : Int32), (115 : Int32), (116 : Int32), (101 : Int32), (109 : Int32), (85 : Int32), (115 : Int32), (101 : Int32), (114 : Int32)] : List Int32).map (fun c => c.toInt8.toInt32)) (n := 13) ge106 Z117 f121 f122 f123 V117 (Sc.ext O117.2) P5 rfl rfl (by decide) (by decide) hp119 rfl (by decide) (by decide)) (g := (mkF m 158 L_105 [(.ref cb117), (.ref b106), (.ref b106)])) rfl (by rw [hml]; rfl) (Steps.refl _) (a := b106) (argsL := [(.ref cb117)]) (rest := [(.ref b106)]) (lenOf pd0_2 rfl) rfl (by show 2 * 0 + _ ≤ _; exact Nat.le_of_eq rfl) (hb hby at_158) (fun _ _ => ⟨rfl, rfl, (by decide : 2 + 1 ≤ _), (by decide : 17 + 13 ≤ _)⟩)
              dsimp only [Pt.U, Pt.locs, Pt.cells, Pt.slots] at X124 l124 y124 z124 st124 hQ124
              subst l124 y124 z124
              obtain ⟨rfl, Nq124, Kp124, A124, Cd124, t124, kb124, gt124, ht124, nt124, Vl124, V124⟩ := hQ124
              have N124 := Fr.app N117 Nq124
              have O124 := Old.keep O117 Kp124 (allS ge106 all0)
              have Z124 : n0 ≤ T124.heap.size := Nat.le_trans Z117 Kp124.1
              have Wd124 := Wd117.keep Kp124 (allS f120 all0)
              have Ts124 : own_St Z T124.heap b106 t124 kb124 ([(101 : Int32), (112 : Int32), (58 : Int32), (83 : Int32), (121 : Int32), (115 : Int32), (116 : Int32), (101 : Int32), (109 : Int32), (85 : Int32), (115 : Int32), (101 : Int32), (114 : Int32)] : List Int32) := ⟨A124, Vl124, Cd124, V124, hp119, by simp⟩
              refine own_csR [(.ref b106)] 161 st124 ?_
              let L_125 : Array Slot := #[.val (.int p0), .val (.int p1), .val (.int p2), .val (.int p3), .val (.int p4), .val (.int p5), .val (.int (0 : Int32)), .val (.int mm), .val (.int cc), .val (.ref b106), .unset, .unset]
              refine own_ls L_125 163 (fun _ q => XS.astore X124.here hx rfl (hb hby at_161) rfl rfl (l' := L_125) rfl q) ?_
              refine own_d0 231 (fun _ q => XS.goto X124.here hx rfl (pc0 := 163) (pc' := 231) rfl (hb hby at_163) (by decide) (by decide) q) ?_
              exact kj56 (.unset) (.unset) T124 _ s.vm T124.heap (.ref b106) (X124.more (by decide) (by decide)) N124 rfl Wd124 hown O124 Z124 rfl One.u One.u ⟨some _, Or.inr ⟨_, _, _, _, rfl, rfl, Ts124⟩, (fun q => by rcases q with q | q <;> (rw [c104] at q; exact absurd q (by decide)))⟩
          ·
            refine own_d2 166 (fun _ q => XS.icmpYes X0.here hx rfl (pc0 := 135) (pc' := 166) rfl (hb hby at_135) rfl (feq c104).2 (by decide) (by decide) q) ?_
            refine own_tp (.int mm) 168 (fun _ q => XS.iload X0.here hx rfl (hb hby at_166) rfl q) ?_
            refine own_tp (.int (1 : Int32)) 169 (fun _ q => XS.iconst X0.here hx rfl (hb hby at_168) q) ?_
            by_cases c126 : mm = (1 : Int32)
            ·
              refine own_d2 179 (fun _ q => XS.icmpYes X0.here hx rfl (pc0 := 169) (pc' := 179) rfl (hb hby at_169) rfl (teq c126).1 (by decide) (by decide) q) ?_
              refine own_tp (.int (0 : Int32)) 181 (fun _ q => XS.iload X0.here hx rfl (hb hby at_179) rfl q) ?_
              let L_127 : Array Slot := #[.val (.int p0), .val (.int p1), .val (.int p2), .val (.int p3), .val (.int p4), .val (.int p5), .val (.int (0 : Int32)), .val (.int mm), .val (.int cc), .unset, .unset, .unset]
              obtain ⟨_, _, ⟨T128, L128, k128, n128⟩, -, X128, ⟨Lc128, hQ128, l128, y128, z128⟩, st128⟩ := Jvm.LawKit.callS X0 hx (y := (⟨"com/example/leastwise/leastwise/core/AuthorizableTypeOfPinLaw", "full", "(I)[C"⟩ : MethodName)) hown (mvT hZ (hw _ (List.mem_of_getElem? (i := 81) rfl))) (mvT hZ (hw _ (List.mem_of_getElem? (i := 82) rfl))) (mvT hZ (hw _ (List.mem_of_getElem? (i := 6) rfl))) (mvT hZ (hw _ (List.mem_of_getElem? (i := 83) rfl))) (by decide) (backOf (W := 0) (rm10 l Z a0 hw [] h0 n0 Z0) hZ (hw _ (List.mem_of_getElem? (i := 83) rfl)) (hw _ (List.mem_of_getElem? (i := 6) rfl)) (by decide) (by decide)) (g := (mkF m 181 L_127 [(.int (0 : Int32))])) rfl (by rw [hml]; rfl) (argsL := [(.int (0 : Int32))]) (rest := []) (lenOf pd0_3 rfl) rfl (by show 2 * 0 + _ ≤ _; exact Nat.le_of_eq rfl) (hb hby at_181) (fun _ _ => ⟨rfl, e0, (by decide : 0 + 1 ≤ _), (by decide : 0 + 14 ≤ _)⟩)
              dsimp only [Pt.U, Pt.locs, Pt.cells, Pt.slots] at X128 l128 y128 z128 st128 hQ128
              subst l128 y128 z128
              obtain ⟨cb128, kc128, rfl, Nq128, Kp128, ge128, sz128, V128⟩ := hQ128
              have N128 := Fr.app N0 Nq128
              have O128 := Old.keep O0 Kp128 all0
              have Z128 : n0 ≤ T128.heap.size := Nat.le_trans Z0 Kp128.1
              have Wd128 := Wd0.keep Kp128 all0
              refine own_t1 (.ref cb128) 184 st128 ?_
              let L_129 : Array Slot := #[.val (.int p0), .val (.int p1), .val (.int p2), .val (.int p3), .val (.int p4), .val (.int p5), .val (.int (0 : Int32)), .val (.int mm), .val (.int cc), .unset, .val (.ref cb128), .unset]
              refine own_ls L_129 186 (fun _ q => XS.astore X128.here hx rfl (hb hby at_184) rfl rfl (l' := L_129) rfl q) ?_
              refine own_tp (.int p2) 187 (fun _ q => XS.iloadN X128.here hx rfl (hb hby at_186) rfl q) ?_
              refine own_tp (.int (2147483647 : Int32)) 189 (fun _ q => X128.ldcInt hx hown (mvT hZ (hw _ (List.mem_of_getElem? (i := 0) rfl))) (g := (mkF m 187 L_129 [(.int p2)])) rfl (hb hby at_187) _ q) ?_
              refine own_t2 (.int (p2 &&& (2147483647 : Int32))) 190 (fun _ q => XS.iand X128.here hx rfl (hb hby at_189) rfl q) ?_
              refine own_tp (.ref cb128) 192 (fun _ q => XS.aload X128.here hx rfl (hb hby at_190) rfl rfl q) ?_
              obtain ⟨cl130, Ar130, -, Sz130, Nn130, -, -⟩ := (id V128)
              refine own_t1 (.int (14 : Int32)) 193 (fun t q => X128.arraylength hx Ar130.1 (State.isArrayOf_alike hZ.alike Ar130.2.1) (g := (mkF m 192 L_129 [(.ref cb128), (.int (p2 &&& (2147483647 : Int32)))])) rfl rfl (hb hby at_192) _ (by rw [len_of Sz130 Nn130]; exact q)) ?_
              refine own_t2 (.int ((p2 &&& (2147483647 : Int32)) % (14 : Int32))) 194 (fun _ q => iremM (g := (mkF m 193 L_129 [(.int (14 : Int32)), (.int (p2 &&& (2147483647 : Int32)))])) X128 hx rfl (hb hby at_193) rfl (by decide) q) ?_
              obtain ⟨pp, epp, hpp⟩ := own_pos p2 (14 : Int32) 14 rfl (by decide)
              rw [epp]
              let L_131 : Array Slot := #[.val (.int p0), .val (.int p1), .val (.int p2), .val (.int p3), .val (.int p4), .val (.int p5), .val (.int (0 : Int32)), .val (.int mm), .val (.int cc), .unset, .val (.ref cb128), .val (.int pp)]
              refine own_ls L_131 196 (fun _ q => XS.istore X128.here hx rfl (hb hby at_194) rfl (l' := L_131) rfl q) ?_
              refine own_tp (.ref cb128) 198 (fun _ q => XS.aload X128.here hx rfl (hb hby at_196) rfl rfl q) ?_
              refine own_tp (.int pp) 200 (fun _ q => XS.iload X128.here hx rfl (hb hby at_198) rfl q) ?_
              refine own_tp (.int cc) 202 (fun _ q => XS.iload X128.here hx rfl (hb hby at_200) rfl q) ?_
              obtain ⟨cl132, Ar132, q132, S132, Nn132, H132, G132⟩ := (id V128)
              have hin132 : ¬ (pp < 0 ∨ cl132.slots.size ≤ (pp).toNatClampNeg) := inb_of S132 (own_inb (n := (14 : Int32)) rfl hpp)
              obtain ⟨T133, h133, X133, e133, W133, st133⟩ := stC X128 hx hZ rfl Ar132 (j := pp) hin132 (g := (mkF m 202 L_131 [(.int cc), (.int pp), (.ref cb128)])) rfl rfl (hb hby at_202)
              have V133 := Arv.set Ar132 q132 S132 Nn132 H132 G132 (fits_nar_char _) W133 pp.toNatClampNeg rfl (own_pn (m := 14) hpp)
              have N133 := Fr.snoc X133 N128 ge128
              have O133 := Old.wr O128 W133 ge128
              have Z133 : n0 ≤ h133.size := Nat.le_trans Z128 (Nat.le_of_eq W133.size.symm)
              have Wd133 := Wd128.wr W133 (own_safeV hZ.alike V128 (by simp))
              have V133' : Arv Z h133 cb128 kc128 .char (14 : Int32) (([(.int (114 : Int32)), (.int (101 : Int32)), (.int (112 : Int32)), (.int (58 : Int32)), (.int (83 : Int32)), (.int (121 : Int32)), (.int (115 : Int32)), (.int (116 : Int32)), (.int (101 : Int32)), (.int (109 : Int32)), (.int (85 : Int32)), (.int (115 : Int32)), (.int (101 : Int32)), (.int (114 : Int32))] : List Value).set pp.toNatClampNeg (.int cc)) (.int (0 : Int32)) := by have q := V133; first | (rw [own_narc (own_up hcc)] at q; exact q) | (rw [own_i2c (own_up hcc)] at q; exact q)
              refine own_cs [] 203 st133 ?_
              obtain ⟨T134, h134, X134, e134, E134, A134, D134, -, st134⟩ := newO X133 hx hZ hown (hw _ (List.mem_of_getElem? (i := 1) rfl)) (hw _ (List.mem_of_getElem? (i := 2) rfl)) (hw _ (List.mem_of_getElem? (i := 3) rfl)) e133 (g := (mkF m 203 L_131 [])) rfl (hb hby at_203) (by decide) (by decide)
              obtain ⟨b134, g134⟩ : ∃ z, z = h133.size := ⟨_, rfl⟩
              rw [← g134] at A134 D134 st134
              have ge134 : n0 ≤ b134 := Nat.le_trans Z133 (Nat.le_of_eq g134.symm)
              have ne135 : cb128 ≠ b134 := Nat.ne_of_lt (Nat.lt_of_lt_of_le V133'.lt (Nat.le_of_eq g134.symm))
              have O134 := Old.ext O133 E134
              have Z134 : n0 ≤ h134.size := Nat.le_trans Z133 E134.1
              have Wd134 := Wd133.ext E134
              have G134 : Safe Z own_EL s.vm h134 b134 := Safe.ext E134 Wd133.chv (Safe.new (Nat.le_of_eq g134.symm))
              have Fcoder_134 : Fld Z h134 b134 "java/lang/String" "coder" "B" (.int (0 : Int32)) := D134 (Or.inr (hw _ (List.mem_of_getElem? (i := 32) rfl))) (ty := .byte) (by decide)
              have Fvalue_134 : Fld Z h134 b134 "java/lang/String" "value" "[B" .null := D134 (Or.inr (hw _ (List.mem_of_getElem? (i := 34) rfl))) (ty := (.array .byte)) (by decide)
              refine own_tp (.ref b134) 206 st134 ?_
              refine own_tp (.ref b134) 207 (fun _ q => XS.dup X134.here hx rfl (hb hby at_206) rfl rfl q) ?_
              refine own_tp (.ref cb128) 209 (fun _ q => XS.aload X134.here hx rfl (hb hby at_207) rfl rfl q) ?_
              have hws : ∀ d ∈ StrChars.Road.words, d.before a0 Z = true := fun d hd => hw d ((by decide +kernel : ∀ d ∈ StrChars.Road.words, d ∈ tables_1) d hd)
              have hp136 : ∀ c ∈ (([(114 : Int32), (101 : Int32), (112 : Int32), (58 : Int32), (83 : Int32), (121 : Int32), (115 : Int32), (116 : Int32), (101 : Int32), (109 : Int32), (85 : Int32), (115 : Int32), (101 : Int32), (114 : Int32)] : List Int32).set pp.toNatClampNeg cc), ¬ c < 0 ∧ ¬ (255 : Int32) < c := own_setch (by decide) (own_ch hcc)
              have f137 := (V133'.ext E134)
              have Vs136 : Arv Z h134 cb128 kc128 .char (14 : Int32) ((([(114 : Int32), (101 : Int32), (112 : Int32), (58 : Int32), (83 : Int32), (121 : Int32), (115 : Int32), (116 : Int32), (101 : Int32), (109 : Int32), (85 : Int32), (115 : Int32), (101 : Int32), (114 : Int32)] : List Int32).set pp.toNatClampNeg cc).map Value.int) (.int (0 : Int32)) := by rw [List.map_set]; exact f137
              obtain ⟨_, _, ⟨T138, L138, k138, n138⟩, -, X138, ⟨Lc138, hQ138, l138, y138, z138⟩, st138⟩ := X134.specialBack hx (y := (⟨"java/lang/String", "<init>", "([C)V"⟩ : MethodName)) rfl hown (mvT hZ (hw _ (List.mem_of_getElem? (i := 9) rfl))) (mvT hZ (hw _ (List.mem_of_getElem? (i := 10) rfl))) (mvT hZ (hw _ (List.mem_of_getElem? (i := 11) rfl))) (by decide) (StrChars.Road.backV (W := 1) hZ hws (kI := 4) (hw _ (List.mem_of_getElem? (i := 2) rfl)) (cs := (([(114 : Int32), (101 : Int32), (112 : Int32), (58 : Int32), (83 : Int32), (121 : Int32), (115 : Int32), (116 : Int32), (101 : Int32), (109 : Int32), (85 : Int32), (115 : Int32), (101 : Int32), (114 : Int32)] : List Int32).set pp.toNatClampNeg cc)) (bs := (([(114 : Int32), (101 : Int32), (112 : Int32), (58 : Int32), (83 : Int32), (121 : Int32), (115 : Int32), (116 : Int32), (101 : Int32), (109 : Int32), (85 : Int32), (115 : Int32), (101 : Int32), (114 : Int32)] : List Int32).set pp.toNatClampNeg cc).map (fun c => c.toInt8.toInt32)) (n := 14) ge134 Z134 A134 Fvalue_134 Fcoder_134 Vs136 (Sc.ext O134.2) P5 (by simp) rfl (by decide) (by decide) hp136 rfl (by decide) (by decide)) (g := (mkF m 209 L_131 [(.ref cb128), (.ref b134), (.ref b134)])) rfl (by rw [hml]; rfl) (Steps.refl _) (a := b134) (argsL := [(.ref cb128)]) (rest := [(.ref b134)]) (lenOf pd0_2 rfl) rfl (by show 2 * 0 + _ ≤ _; exact Nat.le_of_eq rfl) (hb hby at_209) (fun _ _ => ⟨rfl, e134, (by decide : 2 + 1 ≤ _), (by decide : 18 + 14 ≤ _)⟩)
              dsimp only [Pt.U, Pt.locs, Pt.cells, Pt.slots] at X138 l138 y138 z138 st138 hQ138
              subst l138 y138 z138
              obtain ⟨rfl, Nq138, Kp138, A138, Cd138, t138, kb138, gt138, ht138, nt138, Vl138, V138⟩ := hQ138
              have N138 := Fr.app N133 Nq138
              have O138 := Old.keep O134 Kp138 (allS ge134 all0)
              have Z138 : n0 ≤ T138.heap.size := Nat.le_trans Z134 Kp138.1
              have Wd138 := Wd134.keep Kp138 (allS G134 all0)
              have Ts138 : own_St Z T138.heap b134 t138 kb138 (([(114 : Int32), (101 : Int32), (112 : Int32), (58 : Int32), (83 : Int32), (121 : Int32), (115 : Int32), (116 : Int32), (101 : Int32), (109 : Int32), (85 : Int32), (115 : Int32), (101 : Int32), (114 : Int32)] : List Int32).set pp.toNatClampNeg cc) := ⟨A138, Vl138, Cd138, by rw [show ((([(114 : Int32), (101 : Int32), (112 : Int32), (58 : Int32), (83 : Int32), (121 : Int32), (115 : Int32), (116 : Int32), (101 : Int32), (109 : Int32), (85 : Int32), (115 : Int32), (101 : Int32), (114 : Int32)] : List Int32).set pp.toNatClampNeg cc)).length = 14 from by simp]; exact V138, hp136, by simp⟩
              refine own_csR [(.ref b134)] 212 st138 ?_
              let L_139 : Array Slot := #[.val (.int p0), .val (.int p1), .val (.int p2), .val (.int p3), .val (.int p4), .val (.int p5), .val (.int (0 : Int32)), .val (.int mm), .val (.int cc), .val (.ref b134), .val (.ref cb128), .val (.int pp)]
              refine own_ls L_139 214 (fun _ q => XS.astore X138.here hx rfl (hb hby at_212) rfl rfl (l' := L_139) rfl q) ?_
              refine own_d0 231 (fun _ q => XS.goto X138.here hx rfl (pc0 := 214) (pc' := 231) rfl (hb hby at_214) (by decide) (by decide) q) ?_
              exact kj56 (.val (.ref cb128)) (.val (.int pp)) T138 _ s.vm T138.heap (.ref b134) (X138.more (by decide) (by decide)) N138 rfl Wd138 hown O138 Z138 rfl (One.val rfl) (One.val rfl) ⟨some _, Or.inr ⟨_, _, _, _, rfl, rfl, Ts138⟩, (fun q => by rcases q with q | q <;> (rw [c126] at q; exact absurd q (by decide)))⟩
            ·
              refine own_d2 172 (fun _ q => XS.icmpNo X0.here hx rfl (hb hby at_169) rfl (feq c126).1 q) ?_
              refine own_tp (.int mm) 174 (fun _ q => XS.iload X0.here hx rfl (hb hby at_172) rfl q) ?_
              refine own_tp (.int (6 : Int32)) 176 (fun _ q => XS.bipush X0.here hx rfl (hb hby at_174) q) ?_
              by_cases c140 : mm = (6 : Int32)
              ·
                refine own_d2 179 (fun _ q => XS.icmpNo X0.here hx rfl (hb hby at_176) rfl (teq c140).2 q) ?_
                refine own_tp (.int (0 : Int32)) 181 (fun _ q => XS.iload X0.here hx rfl (hb hby at_179) rfl q) ?_
                let L_141 : Array Slot := #[.val (.int p0), .val (.int p1), .val (.int p2), .val (.int p3), .val (.int p4), .val (.int p5), .val (.int (0 : Int32)), .val (.int mm), .val (.int cc), .unset, .unset, .unset]
                obtain ⟨_, _, ⟨T142, L142, k142, n142⟩, -, X142, ⟨Lc142, hQ142, l142, y142, z142⟩, st142⟩ := Jvm.LawKit.callS X0 hx (y := (⟨"com/example/leastwise/leastwise/core/AuthorizableTypeOfPinLaw", "full", "(I)[C"⟩ : MethodName)) hown (mvT hZ (hw _ (List.mem_of_getElem? (i := 81) rfl))) (mvT hZ (hw _ (List.mem_of_getElem? (i := 82) rfl))) (mvT hZ (hw _ (List.mem_of_getElem? (i := 6) rfl))) (mvT hZ (hw _ (List.mem_of_getElem? (i := 83) rfl))) (by decide) (backOf (W := 0) (rm10 l Z a0 hw [] h0 n0 Z0) hZ (hw _ (List.mem_of_getElem? (i := 83) rfl)) (hw _ (List.mem_of_getElem? (i := 6) rfl)) (by decide) (by decide)) (g := (mkF m 181 L_141 [(.int (0 : Int32))])) rfl (by rw [hml]; rfl) (argsL := [(.int (0 : Int32))]) (rest := []) (lenOf pd0_3 rfl) rfl (by show 2 * 0 + _ ≤ _; exact Nat.le_of_eq rfl) (hb hby at_181) (fun _ _ => ⟨rfl, e0, (by decide : 0 + 1 ≤ _), (by decide : 0 + 14 ≤ _)⟩)
                dsimp only [Pt.U, Pt.locs, Pt.cells, Pt.slots] at X142 l142 y142 z142 st142 hQ142
                subst l142 y142 z142
                obtain ⟨cb142, kc142, rfl, Nq142, Kp142, ge142, sz142, V142⟩ := hQ142
                have N142 := Fr.app N0 Nq142
                have O142 := Old.keep O0 Kp142 all0
                have Z142 : n0 ≤ T142.heap.size := Nat.le_trans Z0 Kp142.1
                have Wd142 := Wd0.keep Kp142 all0
                refine own_t1 (.ref cb142) 184 st142 ?_
                let L_143 : Array Slot := #[.val (.int p0), .val (.int p1), .val (.int p2), .val (.int p3), .val (.int p4), .val (.int p5), .val (.int (0 : Int32)), .val (.int mm), .val (.int cc), .unset, .val (.ref cb142), .unset]
                refine own_ls L_143 186 (fun _ q => XS.astore X142.here hx rfl (hb hby at_184) rfl rfl (l' := L_143) rfl q) ?_
                refine own_tp (.int p2) 187 (fun _ q => XS.iloadN X142.here hx rfl (hb hby at_186) rfl q) ?_
                refine own_tp (.int (2147483647 : Int32)) 189 (fun _ q => X142.ldcInt hx hown (mvT hZ (hw _ (List.mem_of_getElem? (i := 0) rfl))) (g := (mkF m 187 L_143 [(.int p2)])) rfl (hb hby at_187) _ q) ?_
                refine own_t2 (.int (p2 &&& (2147483647 : Int32))) 190 (fun _ q => XS.iand X142.here hx rfl (hb hby at_189) rfl q) ?_
                refine own_tp (.ref cb142) 192 (fun _ q => XS.aload X142.here hx rfl (hb hby at_190) rfl rfl q) ?_
                obtain ⟨cl144, Ar144, -, Sz144, Nn144, -, -⟩ := (id V142)
                refine own_t1 (.int (14 : Int32)) 193 (fun t q => X142.arraylength hx Ar144.1 (State.isArrayOf_alike hZ.alike Ar144.2.1) (g := (mkF m 192 L_143 [(.ref cb142), (.int (p2 &&& (2147483647 : Int32)))])) rfl rfl (hb hby at_192) _ (by rw [len_of Sz144 Nn144]; exact q)) ?_
                refine own_t2 (.int ((p2 &&& (2147483647 : Int32)) % (14 : Int32))) 194 (fun _ q => iremM (g := (mkF m 193 L_143 [(.int (14 : Int32)), (.int (p2 &&& (2147483647 : Int32)))])) X142 hx rfl (hb hby at_193) rfl (by decide) q) ?_
                obtain ⟨pp, epp, hpp⟩ := own_pos p2 (14 : Int32) 14 rfl (by decide)
                rw [epp]
                let L_145 : Array Slot := #[.val (.int p0), .val (.int p1), .val (.int p2), .val (.int p3), .val (.int p4), .val (.int p5), .val (.int (0 : Int32)), .val (.int mm), .val (.int cc), .unset, .val (.ref cb142), .val (.int pp)]
                refine own_ls L_145 196 (fun _ q => XS.istore X142.here hx rfl (hb hby at_194) rfl (l' := L_145) rfl q) ?_
                refine own_tp (.ref cb142) 198 (fun _ q => XS.aload X142.here hx rfl (hb hby at_196) rfl rfl q) ?_
                refine own_tp (.int pp) 200 (fun _ q => XS.iload X142.here hx rfl (hb hby at_198) rfl q) ?_
                refine own_tp (.int cc) 202 (fun _ q => XS.iload X142.here hx rfl (hb hby at_200) rfl q) ?_
                obtain ⟨cl146, Ar146, q146, S146, Nn146, H146, G146⟩ := (id V142)
                have hin146 : ¬ (pp < 0 ∨ cl146.slots.size ≤ (pp).toNatClampNeg) := inb_of S146 (own_inb (n := (14 : Int32)) rfl hpp)
                obtain ⟨T147, h147, X147, e147, W147, st147⟩ := stC X142 hx hZ rfl Ar146 (j := pp) hin146 (g := (mkF m 202 L_145 [(.int cc), (.int pp), (.ref cb142)])) rfl rfl (hb hby at_202)
                have V147 := Arv.set Ar146 q146 S146 Nn146 H146 G146 (fits_nar_char _) W147 pp.toNatClampNeg rfl (own_pn (m := 14) hpp)
                have N147 := Fr.snoc X147 N142 ge142
                have O147 := Old.wr O142 W147 ge142
                have Z147 : n0 ≤ h147.size := Nat.le_trans Z142 (Nat.le_of_eq W147.size.symm)
                have Wd147 := Wd142.wr W147 (own_safeV hZ.alike V142 (by simp))
                have V147' : Arv Z h147 cb142 kc142 .char (14 : Int32) (([(.int (114 : Int32)), (.int (101 : Int32)), (.int (112 : Int32)), (.int (58 : Int32)), (.int (83 : Int32)), (.int (121 : Int32)), (.int (115 : Int32)), (.int (116 : Int32)), (.int (101 : Int32)), (.int (109 : Int32)), (.int (85 : Int32)), (.int (115 : Int32)), (.int (101 : Int32)), (.int (114 : Int32))] : List Value).set pp.toNatClampNeg (.int cc)) (.int (0 : Int32)) := by have q := V147; first | (rw [own_narc (own_up hcc)] at q; exact q) | (rw [own_i2c (own_up hcc)] at q; exact q)
                refine own_cs [] 203 st147 ?_
                obtain ⟨T148, h148, X148, e148, E148, A148, D148, -, st148⟩ := newO X147 hx hZ hown (hw _ (List.mem_of_getElem? (i := 1) rfl)) (hw _ (List.mem_of_getElem? (i := 2) rfl)) (hw _ (List.mem_of_getElem? (i := 3) rfl)) e147 (g := (mkF m 203 L_145 [])) rfl (hb hby at_203) (by decide) (by decide)
                obtain ⟨b148, g148⟩ : ∃ z, z = h147.size := ⟨_, rfl⟩
                rw [← g148] at A148 D148 st148
                have ge148 : n0 ≤ b148 := Nat.le_trans Z147 (Nat.le_of_eq g148.symm)
                have ne149 : cb142 ≠ b148 := Nat.ne_of_lt (Nat.lt_of_lt_of_le V147'.lt (Nat.le_of_eq g148.symm))
                have O148 := Old.ext O147 E148
                have Z148 : n0 ≤ h148.size := Nat.le_trans Z147 E148.1
                have Wd148 := Wd147.ext E148
                have G148 : Safe Z own_EL s.vm h148 b148 := Safe.ext E148 Wd147.chv (Safe.new (Nat.le_of_eq g148.symm))
                have Fcoder_148 : Fld Z h148 b148 "java/lang/String" "coder" "B" (.int (0 : Int32)) := D148 (Or.inr (hw _ (List.mem_of_getElem? (i := 32) rfl))) (ty := .byte) (by decide)
                have Fvalue_148 : Fld Z h148 b148 "java/lang/String" "value" "[B" .null := D148 (Or.inr (hw _ (List.mem_of_getElem? (i := 34) rfl))) (ty := (.array .byte)) (by decide)
                refine own_tp (.ref b148) 206 st148 ?_
                refine own_tp (.ref b148) 207 (fun _ q => XS.dup X148.here hx rfl (hb hby at_206) rfl rfl q) ?_
                refine own_tp (.ref cb142) 209 (fun _ q => XS.aload X148.here hx rfl (hb hby at_207) rfl rfl q) ?_
                have hws : ∀ d ∈ StrChars.Road.words, d.before a0 Z = true := fun d hd => hw d ((by decide +kernel : ∀ d ∈ StrChars.Road.words, d ∈ tables_1) d hd)
                have hp150 : ∀ c ∈ (([(114 : Int32), (101 : Int32), (112 : Int32), (58 : Int32), (83 : Int32), (121 : Int32), (115 : Int32), (116 : Int32), (101 : Int32), (109 : Int32), (85 : Int32), (115 : Int32), (101 : Int32), (114 : Int32)] : List Int32).set pp.toNatClampNeg cc), ¬ c < 0 ∧ ¬ (255 : Int32) < c := own_setch (by decide) (own_ch hcc)
                have f151 := (V147'.ext E148)
                have Vs150 : Arv Z h148 cb142 kc142 .char (14 : Int32) ((([(114 : Int32), (101 : Int32), (112 : Int32), (58 : Int32), (83 : Int32), (121 : Int32), (115 : Int32), (116 : Int32), (101 : Int32), (109 : Int32), (85 : Int32), (115 : Int32), (101 : Int32), (114 : Int32)] : List Int32).set pp.toNatClampNeg cc).map Value.int) (.int (0 : Int32)) := by rw [List.map_set]; exact f151
                obtain ⟨_, _, ⟨T152, L152, k152, n152⟩, -, X152, ⟨Lc152, hQ152, l152, y152, z152⟩, st152⟩ := X148.specialBack hx (y := (⟨"java/lang/String", "<init>", "([C)V"⟩ : MethodName)) rfl hown (mvT hZ (hw _ (List.mem_of_getElem? (i := 9) rfl))) (mvT hZ (hw _ (List.mem_of_getElem? (i := 10) rfl))) (mvT hZ (hw _ (List.mem_of_getElem? (i := 11) rfl))) (by decide) (StrChars.Road.backV (W := 1) hZ hws (kI := 4) (hw _ (List.mem_of_getElem? (i := 2) rfl)) (cs := (([(114 : Int32), (101 : Int32), (112 : Int32), (58 : Int32), (83 : Int32), (121 : Int32), (115 : Int32), (116 : Int32), (101 : Int32), (109 : Int32), (85 : Int32), (115 : Int32), (101 : Int32), (114 : Int32)] : List Int32).set pp.toNatClampNeg cc)) (bs := (([(114 : Int32), (101 : Int32), (112 : Int32), (58 : Int32), (83 : Int32), (121 : Int32), (115 : Int32), (116 : Int32), (101 : Int32), (109 : Int32), (85 : Int32), (115 : Int32), (101 : Int32), (114 : Int32)] : List Int32).set pp.toNatClampNeg cc).map (fun c => c.toInt8.toInt32)) (n := 14) ge148 Z148 A148 Fvalue_148 Fcoder_148 Vs150 (Sc.ext O148.2) P5 (by simp) rfl (by decide) (by decide) hp150 rfl (by decide) (by decide)) (g := (mkF m 209 L_145 [(.ref cb142), (.ref b148), (.ref b148)])) rfl (by rw [hml]; rfl) (Steps.refl _) (a := b148) (argsL := [(.ref cb142)]) (rest := [(.ref b148)]) (lenOf pd0_2 rfl) rfl (by show 2 * 0 + _ ≤ _; exact Nat.le_of_eq rfl) (hb hby at_209) (fun _ _ => ⟨rfl, e148, (by decide : 2 + 1 ≤ _), (by decide : 18 + 14 ≤ _)⟩)
                dsimp only [Pt.U, Pt.locs, Pt.cells, Pt.slots] at X152 l152 y152 z152 st152 hQ152
                subst l152 y152 z152
                obtain ⟨rfl, Nq152, Kp152, A152, Cd152, t152, kb152, gt152, ht152, nt152, Vl152, V152⟩ := hQ152
                have N152 := Fr.app N147 Nq152
                have O152 := Old.keep O148 Kp152 (allS ge148 all0)
                have Z152 : n0 ≤ T152.heap.size := Nat.le_trans Z148 Kp152.1
                have Wd152 := Wd148.keep Kp152 (allS G148 all0)
                have Ts152 : own_St Z T152.heap b148 t152 kb152 (([(114 : Int32), (101 : Int32), (112 : Int32), (58 : Int32), (83 : Int32), (121 : Int32), (115 : Int32), (116 : Int32), (101 : Int32), (109 : Int32), (85 : Int32), (115 : Int32), (101 : Int32), (114 : Int32)] : List Int32).set pp.toNatClampNeg cc) := ⟨A152, Vl152, Cd152, by rw [show ((([(114 : Int32), (101 : Int32), (112 : Int32), (58 : Int32), (83 : Int32), (121 : Int32), (115 : Int32), (116 : Int32), (101 : Int32), (109 : Int32), (85 : Int32), (115 : Int32), (101 : Int32), (114 : Int32)] : List Int32).set pp.toNatClampNeg cc)).length = 14 from by simp]; exact V152, hp150, by simp⟩
                refine own_csR [(.ref b148)] 212 st152 ?_
                let L_153 : Array Slot := #[.val (.int p0), .val (.int p1), .val (.int p2), .val (.int p3), .val (.int p4), .val (.int p5), .val (.int (0 : Int32)), .val (.int mm), .val (.int cc), .val (.ref b148), .val (.ref cb142), .val (.int pp)]
                refine own_ls L_153 214 (fun _ q => XS.astore X152.here hx rfl (hb hby at_212) rfl rfl (l' := L_153) rfl q) ?_
                refine own_d0 231 (fun _ q => XS.goto X152.here hx rfl (pc0 := 214) (pc' := 231) rfl (hb hby at_214) (by decide) (by decide) q) ?_
                exact kj56 (.val (.ref cb142)) (.val (.int pp)) T152 _ s.vm T152.heap (.ref b148) (X152.more (by decide) (by decide)) N152 rfl Wd152 hown O152 Z152 rfl (One.val rfl) (One.val rfl) ⟨some _, Or.inr ⟨_, _, _, _, rfl, rfl, Ts152⟩, (fun q => by rcases q with q | q <;> (rw [c140] at q; exact absurd q (by decide)))⟩
              ·
                refine own_d2 217 (fun _ q => XS.icmpYes X0.here hx rfl (pc0 := 176) (pc' := 217) rfl (hb hby at_176) rfl (feq c140).2 (by decide) (by decide) q) ?_
                let L_154 : Array Slot := #[.val (.int p0), .val (.int p1), .val (.int p2), .val (.int p3), .val (.int p4), .val (.int p5), .val (.int (0 : Int32)), .val (.int mm), .val (.int cc), .unset, .unset, .unset]
                obtain ⟨T155, h155, X155, e155, E155, A155, D155, -, st155⟩ := newO X0 hx hZ hown (hw _ (List.mem_of_getElem? (i := 1) rfl)) (hw _ (List.mem_of_getElem? (i := 2) rfl)) (hw _ (List.mem_of_getElem? (i := 3) rfl)) e0 (g := (mkF m 217 L_154 [])) rfl (hb hby at_217) (by decide) (by decide)
                obtain ⟨b155, g155⟩ : ∃ z, z = h0.size := ⟨_, rfl⟩
                rw [← g155] at A155 D155 st155
                have ge155 : n0 ≤ b155 := Nat.le_trans Z0 (Nat.le_of_eq g155.symm)
                have O155 := Old.ext O0 E155
                have Z155 : n0 ≤ h155.size := Nat.le_trans Z0 E155.1
                have Wd155 := Wd0.ext E155
                have G155 : Safe Z own_EL s.vm h155 b155 := Safe.ext E155 Wd0.chv (Safe.new (Nat.le_of_eq g155.symm))
                have Fcoder_155 : Fld Z h155 b155 "java/lang/String" "coder" "B" (.int (0 : Int32)) := D155 (Or.inr (hw _ (List.mem_of_getElem? (i := 32) rfl))) (ty := .byte) (by decide)
                have Fvalue_155 : Fld Z h155 b155 "java/lang/String" "value" "[B" .null := D155 (Or.inr (hw _ (List.mem_of_getElem? (i := 34) rfl))) (ty := (.array .byte)) (by decide)
                refine own_tp (.ref b155) 220 st155 ?_
                refine own_tp (.ref b155) 221 (fun _ q => XS.dup X155.here hx rfl (hb hby at_220) rfl rfl q) ?_
                refine own_tp (.int (0 : Int32)) 223 (fun _ q => XS.iload X155.here hx rfl (hb hby at_221) rfl q) ?_
                obtain ⟨_, _, ⟨T156, L156, k156, n156⟩, -, X156, ⟨Lc156, hQ156, l156, y156, z156⟩, st156⟩ := Jvm.LawKit.callS X155 hx (y := (⟨"com/example/leastwise/leastwise/core/AuthorizableTypeOfPinLaw", "full", "(I)[C"⟩ : MethodName)) hown (mvT hZ (hw _ (List.mem_of_getElem? (i := 81) rfl))) (mvT hZ (hw _ (List.mem_of_getElem? (i := 82) rfl))) (mvT hZ (hw _ (List.mem_of_getElem? (i := 6) rfl))) (mvT hZ (hw _ (List.mem_of_getElem? (i := 83) rfl))) (by decide) (backOf (W := 2) (rm10 l Z a0 hw [] h155 n0 Z155) hZ (hw _ (List.mem_of_getElem? (i := 83) rfl)) (hw _ (List.mem_of_getElem? (i := 6) rfl)) (by decide) (by decide)) (g := (mkF m 223 L_154 [(.int (0 : Int32)), (.ref b155), (.ref b155)])) rfl (by rw [hml]; rfl) (argsL := [(.int (0 : Int32))]) (rest := [(.ref b155), (.ref b155)]) (lenOf pd0_3 rfl) rfl (by show 2 * 0 + _ ≤ _; exact Nat.le_of_eq rfl) (hb hby at_223) (fun _ _ => ⟨rfl, e155, (by decide : 1 + 1 ≤ _), (by decide : 4 + 14 ≤ _)⟩)
                dsimp only [Pt.U, Pt.locs, Pt.cells, Pt.slots] at X156 l156 y156 z156 st156 hQ156
                subst l156 y156 z156
                obtain ⟨cb156, kc156, rfl, Nq156, Kp156, ge156, sz156, V156⟩ := hQ156
                have ne157 : b155 ≠ cb156 := Nat.ne_of_lt (Nat.lt_of_lt_of_le A155.lt sz156)
                have N156 := Fr.app N0 Nq156
                have O156 := Old.keep O155 Kp156 all0
                have Z156 : n0 ≤ T156.heap.size := Nat.le_trans Z155 Kp156.1
                have Wd156 := Wd155.keep Kp156 all0
                refine own_t1 (.ref cb156) 226 st156 ?_
                have f159 := (Safe.keep Kp156 all0 Wd155.chv G155)
                have hws : ∀ d ∈ StrChars.Road.words, d.before a0 Z = true := fun d hd => hw d ((by decide +kernel : ∀ d ∈ StrChars.Road.words, d ∈ tables_1) d hd)
                have hp158 : ∀ c ∈ ([(114 : Int32), (101 : Int32), (112 : Int32), (58 : Int32), (83 : Int32), (121 : Int32), (115 : Int32), (116 : Int32), (101 : Int32), (109 : Int32), (85 : Int32), (115 : Int32), (101 : Int32), (114 : Int32)] : List Int32), ¬ c < 0 ∧ ¬ (255 : Int32) < c := by
                  intro c hc
                  simp only [List.mem_cons, List.not_mem_nil, or_false] at hc
                  rcases hc with rfl | rfl | rfl | rfl | rfl | rfl | rfl | rfl | rfl | rfl | rfl | rfl | rfl | rfl
                  · exact (by decide)
                  · exact (by decide)
                  · exact (by decide)
                  · exact (by decide)
                  · exact (by decide)
                  · exact (by decide)
                  · exact (by decide)
                  · exact (by decide)
                  · exact (by decide)
                  · exact (by decide)
                  · exact (by decide)
                  · exact (by decide)
                  · exact (by decide)
                  · exact (by decide)
                have f160 := (A155.keep Kp156)
                have f161 := (Fvalue_155.keep Kp156 nin0)
                have f162 := (Fcoder_155.keep Kp156 nin0)
                obtain ⟨_, _, ⟨T163, L163, k163, n163⟩, -, X163, ⟨Lc163, hQ163, l163, y163, z163⟩, st163⟩ := X156.specialBack hx (y := (⟨"java/lang/String", "<init>", "([C)V"⟩ : MethodName)) rfl hown (mvT hZ (hw _ (List.mem_of_getElem? (i := 9) rfl))) (mvT hZ (hw _ (List.mem_of_getElem? (i := 10) rfl))) (mvT hZ (hw _ (List.mem_of_getElem? (i := 11) rfl))) (by decide) (StrChars.Road.backV (W := 1) hZ hws (kI := 4) (hw _ (List.mem_of_getElem? (i := 2) rfl)) (cs := ([(114 : Int32), (101 : Int32), (112 : Int32), (58 : Int32), (83 : Int32), (121 : Int32), (115 : Int32), (116 : Int32), (101 : Int32), (109 : Int32), (85 : Int32), (115 : Int32), (101 : Int32), (114 : Int32)] : List Int32)) (bs := ([(114 : Int32), (101 : Int32), (112 : Int32), (58 : Int32), (83 : Int32), (121 : Int32), (115 : Int32), (116 : Int32), (101 : Int32), (109 : Int32), (85 : Int32), (115 : Int32), (101 : Int32), (114 : Int32)] : List Int32).map (fun c => c.toInt8.toInt32)) (n := 14) ge155 Z156 f160 f161 f162 V156 (Sc.ext O156.2) P5 rfl rfl (by decide) (by decide) hp158 rfl (by decide) (by decide)) (g := (mkF m 226 L_154 [(.ref cb156), (.ref b155), (.ref b155)])) rfl (by rw [hml]; rfl) (Steps.refl _) (a := b155) (argsL := [(.ref cb156)]) (rest := [(.ref b155)]) (lenOf pd0_2 rfl) rfl (by show 2 * 0 + _ ≤ _; exact Nat.le_of_eq rfl) (hb hby at_226) (fun _ _ => ⟨rfl, rfl, (by decide : 2 + 1 ≤ _), (by decide : 18 + 14 ≤ _)⟩)
                dsimp only [Pt.U, Pt.locs, Pt.cells, Pt.slots] at X163 l163 y163 z163 st163 hQ163
                subst l163 y163 z163
                obtain ⟨rfl, Nq163, Kp163, A163, Cd163, t163, kb163, gt163, ht163, nt163, Vl163, V163⟩ := hQ163
                have N163 := Fr.app N156 Nq163
                have O163 := Old.keep O156 Kp163 (allS ge155 all0)
                have Z163 : n0 ≤ T163.heap.size := Nat.le_trans Z156 Kp163.1
                have Wd163 := Wd156.keep Kp163 (allS f159 all0)
                have Ts163 : own_St Z T163.heap b155 t163 kb163 ([(114 : Int32), (101 : Int32), (112 : Int32), (58 : Int32), (83 : Int32), (121 : Int32), (115 : Int32), (116 : Int32), (101 : Int32), (109 : Int32), (85 : Int32), (115 : Int32), (101 : Int32), (114 : Int32)] : List Int32) := ⟨A163, Vl163, Cd163, V163, hp158, by simp⟩
                refine own_csR [(.ref b155)] 229 st163 ?_
                let L_164 : Array Slot := #[.val (.int p0), .val (.int p1), .val (.int p2), .val (.int p3), .val (.int p4), .val (.int p5), .val (.int (0 : Int32)), .val (.int mm), .val (.int cc), .val (.ref b155), .unset, .unset]
                refine own_ls L_164 231 (fun _ q => XS.astore X163.here hx rfl (hb hby at_229) rfl rfl (l' := L_164) rfl q) ?_
                exact kj56 (.unset) (.unset) T163 _ s.vm T163.heap (.ref b155) (X163.more (by decide) (by decide)) N163 rfl Wd163 hown O163 Z163 rfl One.u One.u ⟨some _, Or.inr ⟨_, _, _, _, rfl, rfl, Ts163⟩, (fun _ => rfl)⟩
  ·
    refine own_tp (.int mm) 24 (fun _ q => XS.iload X0.here hx rfl (hb hby at_22) rfl q) ?_
    refine own_tp (.int (4 : Int32)) 25 (fun _ q => XS.iconst X0.here hx rfl (hb hby at_24) q) ?_
    by_cases c165 : mm = (4 : Int32)
    ·
      refine own_d2 28 (fun _ q => XS.icmpNo X0.here hx rfl (hb hby at_25) rfl (teq c165).2 q) ?_
      refine own_tp .null 29 (fun _ q => XS.aconstNull X0.here hx rfl (hb hby at_28) q) ?_
      let L_166 : Array Slot := #[.val (.int p0), .val (.int p1), .val (.int p2), .val (.int p3), .val (.int p4), .val (.int p5), .val (.int (1 : Int32)), .val (.int mm), .val (.int cc), .val .null, .unset, .unset]
      refine own_ls L_166 31 (fun _ q => XS.astore X0.here hx rfl (hb hby at_29) rfl rfl (l' := L_166) rfl q) ?_
      refine own_d0 231 (fun _ q => XS.goto X0.here hx rfl (pc0 := 31) (pc' := 231) rfl (hb hby at_31) (by decide) (by decide) q) ?_
      exact kj56 (.unset) (.unset) s₁ _ s.vm h0 .null (X0.more (by decide) (by decide)) N0 e0 Wd0 hown O0 Z0 rfl One.u One.u ⟨none, Or.inl ⟨rfl, rfl⟩, (fun q => by rcases q with q | q <;> (rw [c165] at q; exact absurd q (by decide)))⟩
    ·
      refine own_d2 34 (fun _ q => XS.icmpYes X0.here hx rfl (pc0 := 25) (pc' := 34) rfl (hb hby at_25) rfl (feq c165).2 (by decide) (by decide) q) ?_
      refine own_tp (.int mm) 36 (fun _ q => XS.iload X0.here hx rfl (hb hby at_34) rfl q) ?_
      refine own_tp (.int (5 : Int32)) 37 (fun _ q => XS.iconst X0.here hx rfl (hb hby at_36) q) ?_
      by_cases c167 : mm = (5 : Int32)
      ·
        refine own_d2 40 (fun _ q => XS.icmpNo X0.here hx rfl (hb hby at_37) rfl (teq c167).2 q) ?_
        refine own_tp (.int p4) 42 (fun _ q => XS.iload X0.here hx rfl (hb hby at_40) rfl q) ?_
        let L_168 : Array Slot := #[.val (.int p0), .val (.int p1), .val (.int p2), .val (.int p3), .val (.int p4), .val (.int p5), .val (.int (1 : Int32)), .val (.int mm), .val (.int cc), .unset, .unset, .unset]
        refine own_tp (.int (65536 : Int32)) 44 (fun _ q => X0.ldcInt hx hown (mvT hZ (hw _ (List.mem_of_getElem? (i := 88) rfl))) (g := (mkF m 42 L_168 [(.int p4)])) rfl (hb hby at_42) _ q) ?_
        refine own_t2 (.int (p4 &&& (65536 : Int32))) 45 (fun _ q => XS.iand X0.here hx rfl (hb hby at_44) rfl q) ?_
        by_cases c169 : (p4 &&& (65536 : Int32)) = (0 : Int32)
        ·
          refine own_d1 55 (fun _ q => XS.ifYes X0.here hx rfl (pc0 := 45) (pc' := 55) rfl (hb hby at_45) rfl ((if0 _ _).trans (teq c169).1) (by decide) (by decide) q) ?_
          obtain ⟨T170, h170, X170, e170, E170, A170, D170, -, st170⟩ := newO X0 hx hZ hown (hw _ (List.mem_of_getElem? (i := 1) rfl)) (hw _ (List.mem_of_getElem? (i := 2) rfl)) (hw _ (List.mem_of_getElem? (i := 3) rfl)) e0 (g := (mkF m 55 L_168 [])) rfl (hb hby at_55) (by decide) (by decide)
          obtain ⟨b170, g170⟩ : ∃ z, z = h0.size := ⟨_, rfl⟩
          rw [← g170] at A170 D170 st170
          have ge170 : n0 ≤ b170 := Nat.le_trans Z0 (Nat.le_of_eq g170.symm)
          have O170 := Old.ext O0 E170
          have Z170 : n0 ≤ h170.size := Nat.le_trans Z0 E170.1
          have Wd170 := Wd0.ext E170
          have G170 : Safe Z own_EL s.vm h170 b170 := Safe.ext E170 Wd0.chv (Safe.new (Nat.le_of_eq g170.symm))
          have Fcoder_170 : Fld Z h170 b170 "java/lang/String" "coder" "B" (.int (0 : Int32)) := D170 (Or.inr (hw _ (List.mem_of_getElem? (i := 32) rfl))) (ty := .byte) (by decide)
          have Fvalue_170 : Fld Z h170 b170 "java/lang/String" "value" "[B" .null := D170 (Or.inr (hw _ (List.mem_of_getElem? (i := 34) rfl))) (ty := (.array .byte)) (by decide)
          refine own_tp (.ref b170) 58 st170 ?_
          refine own_tp (.ref b170) 59 (fun _ q => XS.dup X170.here hx rfl (hb hby at_58) rfl rfl q) ?_
          refine own_tp (.int (3 : Int32)) 60 (fun _ q => XS.iconst X170.here hx rfl (hb hby at_59) q) ?_
          obtain ⟨T171, h171, k171, X171, e171, E171, A171, st171⟩ := newP X170 hx hZ (hw _ (List.mem_of_getElem? (i := 8) rfl)) e170 (g := (mkF m 60 L_168 [(.int (3 : Int32)), (.ref b170), (.ref b170)])) rfl (hb hby at_60) rfl (by decide) (cap := 3) (by decide) (by decide) (by decide) (by decide)
          obtain ⟨b171, g171⟩ : ∃ z, z = h170.size := ⟨_, rfl⟩
          rw [← g171] at A171 st171
          have V171 : Arv Z h171 b171 k171 .char (3 : Int32) [(.int (0 : Int32)), (.int (0 : Int32)), (.int (0 : Int32))] (.int (0 : Int32)) := (Arv.new A171 (by decide)).pad (pad_rep [] (.int (0 : Int32)) 3)
          have ge171 : n0 ≤ b171 := Nat.le_trans Z170 (Nat.le_of_eq g171.symm)
          have ne172 : b170 ≠ b171 := Nat.ne_of_lt (Nat.lt_of_lt_of_le A170.lt (Nat.le_of_eq g171.symm))
          have O171 := Old.ext O170 E171
          have Z171 : n0 ≤ h171.size := Nat.le_trans Z170 E171.1
          have Wd171 := Wd170.ext E171
          refine own_t1 (.ref b171) 62 st171 ?_
          refine own_tp (.ref b171) 63 (fun _ q => XS.dup X171.here hx rfl (hb hby at_62) rfl rfl q) ?_
          refine own_tp (.int (0 : Int32)) 64 (fun _ q => XS.iconst X171.here hx rfl (hb hby at_63) q) ?_
          refine own_tp (.int p4) 66 (fun _ q => XS.iload X171.here hx rfl (hb hby at_64) rfl q) ?_
          refine own_tp (.int (255 : Int32)) 69 (fun _ q => XS.sipush X171.here hx rfl (hb hby at_66) q) ?_
          refine own_t2 (.int (p4 &&& (255 : Int32))) 70 (fun _ q => XS.iand X171.here hx rfl (hb hby at_69) rfl q) ?_
          refine own_t1 (.int ((p4 &&& (255 : Int32)).toUInt32.toUInt16.toUInt32.toInt32)) 71 (fun _ q => XS.i2c X171.here hx rfl (hb hby at_70) rfl q) ?_
          obtain ⟨ca, eca, hca⟩ : ∃ z : Int32, ((p4 &&& (255 : Int32)).toUInt32.toUInt16.toUInt32.toInt32) = z ∧ (0 ≤ z.toInt ∧ z.toInt ≤ 255) := own_c255 p4
          rw [eca]
          obtain ⟨cl173, Ar173, q173, S173, Nn173, H173, G173⟩ := (id V171)
          have hin173 : ¬ ((0 : Int32) < 0 ∨ cl173.slots.size ≤ ((0 : Int32)).toNatClampNeg) := inb_of S173 ⟨by decide, by decide⟩
          obtain ⟨T174, h174, X174, e174, W174, st174⟩ := stC X171 hx hZ e171 Ar173 (j := (0 : Int32)) hin173 (g := (mkF m 71 L_168 [(.int ca), (.int (0 : Int32)), (.ref b171), (.ref b171), (.ref b170), (.ref b170)])) rfl rfl (hb hby at_71)
          have V174 := Arv.set Ar173 q173 S173 Nn173 H173 G173 (fits_nar_char _) W174 0 rfl (Nat.le_of_ble_eq_true rfl)
          have N174 := Fr.snoc X174 N0 ge171
          have O174 := Old.wr O171 W174 ge171
          have Z174 : n0 ≤ h174.size := Nat.le_trans Z171 (Nat.le_of_eq W174.size.symm)
          have Wd174 := Wd171.wr W174 (own_safeV hZ.alike V171 (by simp))
          have V174' : Arv Z h174 b171 k171 .char (3 : Int32) [(.int ca), (.int (0 : Int32)), (.int (0 : Int32))] (.int (0 : Int32)) := by have q := V174; first | (rw [own_narc (own_up hca)] at q; exact q) | (rw [own_i2c (own_up hca)] at q; exact q)
          refine own_cs [(.ref b171), (.ref b170), (.ref b170)] 72 st174 ?_
          refine own_tp (.ref b171) 73 (fun _ q => XS.dup X174.here hx rfl (hb hby at_72) rfl rfl q) ?_
          refine own_tp (.int (1 : Int32)) 74 (fun _ q => XS.iconst X174.here hx rfl (hb hby at_73) q) ?_
          refine own_tp (.int p5) 76 (fun _ q => XS.iload X174.here hx rfl (hb hby at_74) rfl q) ?_
          refine own_tp (.int (255 : Int32)) 79 (fun _ q => XS.sipush X174.here hx rfl (hb hby at_76) q) ?_
          refine own_t2 (.int (p5 &&& (255 : Int32))) 80 (fun _ q => XS.iand X174.here hx rfl (hb hby at_79) rfl q) ?_
          refine own_t1 (.int ((p5 &&& (255 : Int32)).toUInt32.toUInt16.toUInt32.toInt32)) 81 (fun _ q => XS.i2c X174.here hx rfl (hb hby at_80) rfl q) ?_
          obtain ⟨cb, ecb, hcb⟩ : ∃ z : Int32, ((p5 &&& (255 : Int32)).toUInt32.toUInt16.toUInt32.toInt32) = z ∧ (0 ≤ z.toInt ∧ z.toInt ≤ 255) := own_c255 p5
          rw [ecb]
          obtain ⟨cl175, Ar175, q175, S175, Nn175, H175, G175⟩ := (id V174')
          have hin175 : ¬ ((1 : Int32) < 0 ∨ cl175.slots.size ≤ ((1 : Int32)).toNatClampNeg) := inb_of S175 ⟨by decide, by decide⟩
          obtain ⟨T176, h176, X176, e176, W176, st176⟩ := stC X174 hx hZ e174 Ar175 (j := (1 : Int32)) hin175 (g := (mkF m 81 L_168 [(.int cb), (.int (1 : Int32)), (.ref b171), (.ref b171), (.ref b170), (.ref b170)])) rfl rfl (hb hby at_81)
          have V176 := Arv.set Ar175 q175 S175 Nn175 H175 G175 (fits_nar_char _) W176 1 rfl (Nat.le_of_ble_eq_true rfl)
          have N176 := Fr.snoc X176 N174 ge171
          have O176 := Old.wr O174 W176 ge171
          have Z176 : n0 ≤ h176.size := Nat.le_trans Z174 (Nat.le_of_eq W176.size.symm)
          have Wd176 := Wd174.wr W176 (own_safeV hZ.alike V174' (by simp))
          have V176' : Arv Z h176 b171 k171 .char (3 : Int32) [(.int ca), (.int cb), (.int (0 : Int32))] (.int (0 : Int32)) := by have q := V176; first | (rw [own_narc (own_up hcb)] at q; exact q) | (rw [own_i2c (own_up hcb)] at q; exact q)
          refine own_cs [(.ref b171), (.ref b170), (.ref b170)] 82 st176 ?_
          refine own_tp (.ref b171) 83 (fun _ q => XS.dup X176.here hx rfl (hb hby at_82) rfl rfl q) ?_
          refine own_tp (.int (2 : Int32)) 84 (fun _ q => XS.iconst X176.here hx rfl (hb hby at_83) q) ?_
          refine own_tp (.int cc) 86 (fun _ q => XS.iload X176.here hx rfl (hb hby at_84) rfl q) ?_
          obtain ⟨cl177, Ar177, q177, S177, Nn177, H177, G177⟩ := (id V176')
          have hin177 : ¬ ((2 : Int32) < 0 ∨ cl177.slots.size ≤ ((2 : Int32)).toNatClampNeg) := inb_of S177 ⟨by decide, by decide⟩
          obtain ⟨T178, h178, X178, e178, W178, st178⟩ := stC X176 hx hZ e176 Ar177 (j := (2 : Int32)) hin177 (g := (mkF m 86 L_168 [(.int cc), (.int (2 : Int32)), (.ref b171), (.ref b171), (.ref b170), (.ref b170)])) rfl rfl (hb hby at_86)
          have V178 := Arv.set Ar177 q177 S177 Nn177 H177 G177 (fits_nar_char _) W178 2 rfl (Nat.le_of_ble_eq_true rfl)
          have N178 := Fr.snoc X178 N176 ge171
          have O178 := Old.wr O176 W178 ge171
          have Z178 : n0 ≤ h178.size := Nat.le_trans Z176 (Nat.le_of_eq W178.size.symm)
          have Wd178 := Wd176.wr W178 (own_safeV hZ.alike V176' (by simp))
          have V178' : Arv Z h178 b171 k171 .char (3 : Int32) [(.int ca), (.int cb), (.int cc)] (.int (0 : Int32)) := by have q := V178; first | (rw [own_narc (own_up hcc)] at q; exact q) | (rw [own_i2c (own_up hcc)] at q; exact q)
          refine own_cs [(.ref b171), (.ref b170), (.ref b170)] 87 st178 ?_
          obtain ⟨Lz179, Xz179, Nz179⟩ : ∃ Lz, Stand p l e room_1 (s.setVm s.vm) m #[(.int p0), (.int p1), (.int p2), (.int p3), (.int p4), (.int p5)] below meth c T178 Lz 2 7 ∧ Fr n0 Lz := ⟨_, X178, N178⟩
          have f181 := (Safe.wr W178 (own_safeV hZ.alike V176' (by simp)) Wd176.chv (Safe.wr W176 (own_safeV hZ.alike V174' (by simp)) Wd174.chv (Safe.wr W174 (own_safeV hZ.alike V171 (by simp)) Wd171.chv (Safe.ext E171 Wd170.chv G170))))
          have hws : ∀ d ∈ StrChars.Road.words, d.before a0 Z = true := fun d hd => hw d ((by decide +kernel : ∀ d ∈ StrChars.Road.words, d ∈ tables_1) d hd)
          have hp180 : ∀ c ∈ ([ca, cb, cc] : List Int32), ¬ c < 0 ∧ ¬ (255 : Int32) < c := by
            intro c hc
            simp only [List.mem_cons, List.not_mem_nil, or_false] at hc
            rcases hc with rfl | rfl | rfl
            · exact own_ch hca
            · exact own_ch hcb
            · exact own_ch hcc
          have f182 := ((((A170.ext E171).wr W174).wr W176).wr W178)
          have f183 := ((((Fvalue_170.ext E171).other W174 (Or.inl ne172)).other W176 (Or.inl ne172)).other W178 (Or.inl ne172))
          have f184 := ((((Fcoder_170.ext E171).other W174 (Or.inl ne172)).other W176 (Or.inl ne172)).other W178 (Or.inl ne172))
          obtain ⟨_, _, ⟨T185, L185, k185, n185⟩, -, X185, ⟨Lc185, hQ185, l185, y185, z185⟩, st185⟩ := Xz179.specialBack hx (y := (⟨"java/lang/String", "<init>", "([C)V"⟩ : MethodName)) rfl hown (mvT hZ (hw _ (List.mem_of_getElem? (i := 9) rfl))) (mvT hZ (hw _ (List.mem_of_getElem? (i := 10) rfl))) (mvT hZ (hw _ (List.mem_of_getElem? (i := 11) rfl))) (by decide) (StrChars.Road.backV (W := 1) hZ hws (kI := 4) (hw _ (List.mem_of_getElem? (i := 2) rfl)) (cs := ([ca, cb, cc] : List Int32)) (bs := ([ca, cb, cc] : List Int32).map (fun c => c.toInt8.toInt32)) (n := 3) ge170 Z178 f182 f183 f184 V178' (Sc.ext O178.2) P5 rfl rfl (by decide) (by decide) hp180 rfl (by decide) (by decide)) (g := (mkF m 87 L_168 [(.ref b171), (.ref b170), (.ref b170)])) rfl (by rw [hml]; rfl) (Steps.refl _) (a := b170) (argsL := [(.ref b171)]) (rest := [(.ref b170)]) (lenOf pd0_2 rfl) rfl (by show 2 * 0 + _ ≤ _; exact Nat.le_of_eq rfl) (hb hby at_87) (fun _ _ => ⟨rfl, e178, (by decide : 2 + 1 ≤ _), (by decide : 7 + 3 ≤ _)⟩)
          dsimp only [Pt.U, Pt.locs, Pt.cells, Pt.slots] at X185 l185 y185 z185 st185 hQ185
          subst l185 y185 z185
          obtain ⟨rfl, Nq185, Kp185, A185, Cd185, t185, kb185, gt185, ht185, nt185, Vl185, V185⟩ := hQ185
          have N185 := Fr.app Nz179 Nq185
          have O185 := Old.keep O178 Kp185 (allS ge170 all0)
          have Z185 : n0 ≤ T185.heap.size := Nat.le_trans Z178 Kp185.1
          have Wd185 := Wd178.keep Kp185 (allS f181 all0)
          have Ts185 : own_St Z T185.heap b170 t185 kb185 ([ca, cb, cc] : List Int32) := ⟨A185, Vl185, Cd185, V185, hp180, by simp⟩
          refine own_csR [(.ref b170)] 90 st185 ?_
          let L_186 : Array Slot := #[.val (.int p0), .val (.int p1), .val (.int p2), .val (.int p3), .val (.int p4), .val (.int p5), .val (.int (1 : Int32)), .val (.int mm), .val (.int cc), .val (.ref b170), .unset, .unset]
          refine own_ls L_186 92 (fun _ q => XS.astore X185.here hx rfl (hb hby at_90) rfl rfl (l' := L_186) rfl q) ?_
          refine own_d0 231 (fun _ q => XS.goto X185.here hx rfl (pc0 := 92) (pc' := 231) rfl (hb hby at_92) (by decide) (by decide) q) ?_
          exact kj56 (.unset) (.unset) T185 _ s.vm T185.heap (.ref b170) (X185.more (by decide) (by decide)) N185 rfl Wd185 hown O185 Z185 rfl One.u One.u ⟨some _, Or.inr ⟨_, _, _, _, rfl, rfl, Ts185⟩, (fun q => by rcases q with q | q <;> (rw [c167] at q; exact absurd q (by decide)))⟩
        ·
          refine own_d1 48 (fun _ q => XS.ifNo X0.here hx rfl (hb hby at_45) rfl ((if0 _ _).trans (feq c169).1) q) ?_
          obtain ⟨b187, T187, h187, bb187, kk187, X187, e187, E187, Wd187, ho187, A187, Cd187, Vl187, V187, Ch187, Sf187, st187⟩ := own_ldc X0 hx Wd0 hown (hw _ (List.mem_of_getElem? (i := 91) rfl)) wS e0 (by simp [own_EL, x]) (vs := []) (z := (0 : Int32)) ⟨by decide, by decide⟩ (by decide) rfl (g := (mkF m 48 L_168 [])) rfl (hb hby at_48) (n := 0) (by decide) (by decide) (by decide) (by decide)
          have hZ187 : Z.Warmed39 (s.setVm T187.vm).vm := Wd187.hZ
          have hown187 : (s.setVm T187.vm).vm.findClass "com/example/leastwise/leastwise/core/AuthorizableTypeOfPinLaw" = some m.cls := ho187
          have O187 := Old.ext O0 E187
          have Z187 : n0 ≤ h187.size := Nat.le_trans Z0 E187.1
          have Tl187 : own_St Z h187 b187 bb187 kk187 ([] : List Int32) := ⟨A187, Vl187, Cd187, V187, by decide, by decide⟩
          refine own_tp (.ref b187) 50 st187 ?_
          let L_188 : Array Slot := #[.val (.int p0), .val (.int p1), .val (.int p2), .val (.int p3), .val (.int p4), .val (.int p5), .val (.int (1 : Int32)), .val (.int mm), .val (.int cc), .val (.ref b187), .unset, .unset]
          refine own_ls L_188 52 (fun _ q => XS.astore X187.here hx rfl (hb hby at_50) rfl rfl (l' := L_188) rfl q) ?_
          refine own_d0 231 (fun _ q => XS.goto X187.here hx rfl (pc0 := 52) (pc' := 231) rfl (hb hby at_52) (by decide) (by decide) q) ?_
          exact kj56 (.unset) (.unset) T187 _ T187.vm h187 (.ref b187) (X187.more (by decide) (by decide)) N0 e187 Wd187 hown187 O187 Z187 rfl One.u One.u ⟨some _, Or.inr ⟨_, _, _, _, rfl, rfl, Tl187⟩, (fun q => by rcases q with q | q <;> (rw [c167] at q; exact absurd q (by decide)))⟩
      ·
        refine own_d2 95 (fun _ q => XS.icmpYes X0.here hx rfl (pc0 := 37) (pc' := 95) rfl (hb hby at_37) rfl (feq c167).2 (by decide) (by decide) q) ?_
        refine own_tp (.int mm) 97 (fun _ q => XS.iload X0.here hx rfl (hb hby at_95) rfl q) ?_
        refine own_tp (.int (2 : Int32)) 98 (fun _ q => XS.iconst X0.here hx rfl (hb hby at_97) q) ?_
        by_cases c189 : mm = (2 : Int32)
        ·
          refine own_d2 101 (fun _ q => XS.icmpNo X0.here hx rfl (hb hby at_98) rfl (teq c189).2 q) ?_
          refine own_tp (.int (1 : Int32)) 103 (fun _ q => XS.iload X0.here hx rfl (hb hby at_101) rfl q) ?_
          let L_190 : Array Slot := #[.val (.int p0), .val (.int p1), .val (.int p2), .val (.int p3), .val (.int p4), .val (.int p5), .val (.int (1 : Int32)), .val (.int mm), .val (.int cc), .unset, .unset, .unset]
          obtain ⟨_, _, ⟨T191, L191, k191, n191⟩, -, X191, ⟨Lc191, hQ191, l191, y191, z191⟩, st191⟩ := Jvm.LawKit.callS X0 hx (y := (⟨"com/example/leastwise/leastwise/core/AuthorizableTypeOfPinLaw", "extended", "(I)[C"⟩ : MethodName)) hown (mvT hZ (hw _ (List.mem_of_getElem? (i := 78) rfl))) (mvT hZ (hw _ (List.mem_of_getElem? (i := 79) rfl))) (mvT hZ (hw _ (List.mem_of_getElem? (i := 6) rfl))) (mvT hZ (hw _ (List.mem_of_getElem? (i := 80) rfl))) (by decide) (backOf (W := 0) (rm15 l Z a0 hw [] h0 n0 Z0) hZ (hw _ (List.mem_of_getElem? (i := 80) rfl)) (hw _ (List.mem_of_getElem? (i := 6) rfl)) (by decide) (by decide)) (g := (mkF m 103 L_190 [(.int (1 : Int32))])) rfl (by rw [hml]; rfl) (argsL := [(.int (1 : Int32))]) (rest := []) (lenOf pd0_3 rfl) rfl (by show 2 * 0 + _ ≤ _; exact Nat.le_of_eq rfl) (hb hby at_103) (fun _ _ => ⟨rfl, e0, (by decide : 0 + 1 ≤ _), (by decide : 0 + 9 ≤ _)⟩)
          dsimp only [Pt.U, Pt.locs, Pt.cells, Pt.slots] at X191 l191 y191 z191 st191 hQ191
          subst l191 y191 z191
          obtain ⟨cb191, kc191, rfl, Nq191, Kp191, ge191, sz191, V191⟩ := hQ191
          have N191 := Fr.app N0 Nq191
          have O191 := Old.keep O0 Kp191 all0
          have Z191 : n0 ≤ T191.heap.size := Nat.le_trans Z0 Kp191.1
          have Wd191 := Wd0.keep Kp191 all0
          refine own_t1 (.ref cb191) 106 st191 ?_
          let L_192 : Array Slot := #[.val (.int p0), .val (.int p1), .val (.int p2), .val (.int p3), .val (.int p4), .val (.int p5), .val (.int (1 : Int32)), .val (.int mm), .val (.int cc), .unset, .val (.ref cb191), .unset]
          refine own_ls L_192 108 (fun _ q => XS.astore X191.here hx rfl (hb hby at_106) rfl rfl (l' := L_192) rfl q) ?_
          refine own_tp (.ref cb191) 110 (fun _ q => XS.aload X191.here hx rfl (hb hby at_108) rfl rfl q) ?_
          refine own_tp (.ref cb191) 112 (fun _ q => XS.aload X191.here hx rfl (hb hby at_110) rfl rfl q) ?_
          obtain ⟨cl193, Ar193, -, Sz193, Nn193, -, -⟩ := (id V191)
          refine own_t1 (.int (9 : Int32)) 113 (fun t q => X191.arraylength hx Ar193.1 (State.isArrayOf_alike hZ.alike Ar193.2.1) (g := (mkF m 112 L_192 [(.ref cb191), (.ref cb191)])) rfl rfl (hb hby at_112) _ (by rw [len_of Sz193 Nn193]; exact q)) ?_
          refine own_tp (.int (1 : Int32)) 114 (fun _ q => XS.iconst X191.here hx rfl (hb hby at_113) q) ?_
          refine own_t2 (.int (8 : Int32)) 115 (fun _ q => XS.isub X191.here hx rfl (hb hby at_114) rfl q) ?_
          refine own_tp (.int cc) 117 (fun _ q => XS.iload X191.here hx rfl (hb hby at_115) rfl q) ?_
          obtain ⟨cl194, Ar194, q194, S194, Nn194, H194, G194⟩ := (id V191)
          have hin194 : ¬ ((8 : Int32) < 0 ∨ cl194.slots.size ≤ ((8 : Int32)).toNatClampNeg) := inb_of S194 ⟨by decide, by decide⟩
          obtain ⟨T195, h195, X195, e195, W195, st195⟩ := stC X191 hx hZ rfl Ar194 (j := (8 : Int32)) hin194 (g := (mkF m 117 L_192 [(.int cc), (.int (8 : Int32)), (.ref cb191)])) rfl rfl (hb hby at_117)
          have V195 := Arv.set Ar194 q194 S194 Nn194 H194 G194 (fits_nar_char _) W195 8 rfl (Nat.le_of_ble_eq_true rfl)
          have N195 := Fr.snoc X195 N191 ge191
          have O195 := Old.wr O191 W195 ge191
          have Z195 : n0 ≤ h195.size := Nat.le_trans Z191 (Nat.le_of_eq W195.size.symm)
          have Wd195 := Wd191.wr W195 (own_safeV hZ.alike V191 (by simp))
          have V195' : Arv Z h195 cb191 kc191 .char (9 : Int32) [(.int (114 : Int32)), (.int (101 : Int32)), (.int (112 : Int32)), (.int (58 : Int32)), (.int (85 : Int32)), (.int (115 : Int32)), (.int (101 : Int32)), (.int (114 : Int32)), (.int cc)] (.int (0 : Int32)) := by have q := V195; first | (rw [own_narc (own_up hcc)] at q; exact q) | (rw [own_i2c (own_up hcc)] at q; exact q)
          refine own_cs [] 118 st195 ?_
          obtain ⟨T196, h196, X196, e196, E196, A196, D196, -, st196⟩ := newO X195 hx hZ hown (hw _ (List.mem_of_getElem? (i := 1) rfl)) (hw _ (List.mem_of_getElem? (i := 2) rfl)) (hw _ (List.mem_of_getElem? (i := 3) rfl)) e195 (g := (mkF m 118 L_192 [])) rfl (hb hby at_118) (by decide) (by decide)
          obtain ⟨b196, g196⟩ : ∃ z, z = h195.size := ⟨_, rfl⟩
          rw [← g196] at A196 D196 st196
          have ge196 : n0 ≤ b196 := Nat.le_trans Z195 (Nat.le_of_eq g196.symm)
          have ne197 : cb191 ≠ b196 := Nat.ne_of_lt (Nat.lt_of_lt_of_le V195'.lt (Nat.le_of_eq g196.symm))
          have O196 := Old.ext O195 E196
          have Z196 : n0 ≤ h196.size := Nat.le_trans Z195 E196.1
          have Wd196 := Wd195.ext E196
          have G196 : Safe Z own_EL s.vm h196 b196 := Safe.ext E196 Wd195.chv (Safe.new (Nat.le_of_eq g196.symm))
          have Fcoder_196 : Fld Z h196 b196 "java/lang/String" "coder" "B" (.int (0 : Int32)) := D196 (Or.inr (hw _ (List.mem_of_getElem? (i := 32) rfl))) (ty := .byte) (by decide)
          have Fvalue_196 : Fld Z h196 b196 "java/lang/String" "value" "[B" .null := D196 (Or.inr (hw _ (List.mem_of_getElem? (i := 34) rfl))) (ty := (.array .byte)) (by decide)
          refine own_tp (.ref b196) 121 st196 ?_
          refine own_tp (.ref b196) 122 (fun _ q => XS.dup X196.here hx rfl (hb hby at_121) rfl rfl q) ?_
          refine own_tp (.ref cb191) 124 (fun _ q => XS.aload X196.here hx rfl (hb hby at_122) rfl rfl q) ?_
          have hws : ∀ d ∈ StrChars.Road.words, d.before a0 Z = true := fun d hd => hw d ((by decide +kernel : ∀ d ∈ StrChars.Road.words, d ∈ tables_1) d hd)
          have f199 := (V195'.ext E196)
          have hp198 : ∀ c ∈ ([(114 : Int32), (101 : Int32), (112 : Int32), (58 : Int32), (85 : Int32), (115 : Int32), (101 : Int32), (114 : Int32), cc] : List Int32), ¬ c < 0 ∧ ¬ (255 : Int32) < c := by
            intro c hc
            simp only [List.mem_cons, List.not_mem_nil, or_false] at hc
            rcases hc with rfl | rfl | rfl | rfl | rfl | rfl | rfl | rfl | rfl
            · exact (by decide)
            · exact (by decide)
            · exact (by decide)
            · exact (by decide)
            · exact (by decide)
            · exact (by decide)
            · exact (by decide)
            · exact (by decide)
            · exact own_ch hcc
          obtain ⟨_, _, ⟨T200, L200, k200, n200⟩, -, X200, ⟨Lc200, hQ200, l200, y200, z200⟩, st200⟩ := X196.specialBack hx (y := (⟨"java/lang/String", "<init>", "([C)V"⟩ : MethodName)) rfl hown (mvT hZ (hw _ (List.mem_of_getElem? (i := 9) rfl))) (mvT hZ (hw _ (List.mem_of_getElem? (i := 10) rfl))) (mvT hZ (hw _ (List.mem_of_getElem? (i := 11) rfl))) (by decide) (StrChars.Road.backV (W := 1) hZ hws (kI := 4) (hw _ (List.mem_of_getElem? (i := 2) rfl)) (cs := ([(114 : Int32), (101 : Int32), (112 : Int32), (58 : Int32), (85 : Int32), (115 : Int32), (101 : Int32), (114 : Int32), cc] : List Int32)) (bs := ([(114 : Int32), (101 : Int32), (112 : Int32), (58 : Int32), (85 : Int32), (115 : Int32), (101 : Int32), (114 : Int32), cc] : List Int32).map (fun c => c.toInt8.toInt32)) (n := 9) ge196 Z196 A196 Fvalue_196 Fcoder_196 f199 (Sc.ext O196.2) P5 rfl rfl (by decide) (by decide) hp198 rfl (by decide) (by decide)) (g := (mkF m 124 L_192 [(.ref cb191), (.ref b196), (.ref b196)])) rfl (by rw [hml]; rfl) (Steps.refl _) (a := b196) (argsL := [(.ref cb191)]) (rest := [(.ref b196)]) (lenOf pd0_2 rfl) rfl (by show 2 * 0 + _ ≤ _; exact Nat.le_of_eq rfl) (hb hby at_124) (fun _ _ => ⟨rfl, e196, (by decide : 2 + 1 ≤ _), (by decide : 13 + 9 ≤ _)⟩)
          dsimp only [Pt.U, Pt.locs, Pt.cells, Pt.slots] at X200 l200 y200 z200 st200 hQ200
          subst l200 y200 z200
          obtain ⟨rfl, Nq200, Kp200, A200, Cd200, t200, kb200, gt200, ht200, nt200, Vl200, V200⟩ := hQ200
          have N200 := Fr.app N195 Nq200
          have O200 := Old.keep O196 Kp200 (allS ge196 all0)
          have Z200 : n0 ≤ T200.heap.size := Nat.le_trans Z196 Kp200.1
          have Wd200 := Wd196.keep Kp200 (allS G196 all0)
          have Ts200 : own_St Z T200.heap b196 t200 kb200 ([(114 : Int32), (101 : Int32), (112 : Int32), (58 : Int32), (85 : Int32), (115 : Int32), (101 : Int32), (114 : Int32), cc] : List Int32) := ⟨A200, Vl200, Cd200, V200, hp198, by simp⟩
          refine own_csR [(.ref b196)] 127 st200 ?_
          let L_201 : Array Slot := #[.val (.int p0), .val (.int p1), .val (.int p2), .val (.int p3), .val (.int p4), .val (.int p5), .val (.int (1 : Int32)), .val (.int mm), .val (.int cc), .val (.ref b196), .val (.ref cb191), .unset]
          refine own_ls L_201 129 (fun _ q => XS.astore X200.here hx rfl (hb hby at_127) rfl rfl (l' := L_201) rfl q) ?_
          refine own_d0 231 (fun _ q => XS.goto X200.here hx rfl (pc0 := 129) (pc' := 231) rfl (hb hby at_129) (by decide) (by decide) q) ?_
          exact kj56 (.val (.ref cb191)) (.unset) T200 _ s.vm T200.heap (.ref b196) (X200.more (by decide) (by decide)) N200 rfl Wd200 hown O200 Z200 rfl (One.val rfl) One.u ⟨some _, Or.inr ⟨_, _, _, _, rfl, rfl, Ts200⟩, (fun q => by rcases q with q | q <;> (rw [c189] at q; exact absurd q (by decide)))⟩
        ·
          refine own_d2 132 (fun _ q => XS.icmpYes X0.here hx rfl (pc0 := 98) (pc' := 132) rfl (hb hby at_98) rfl (feq c189).2 (by decide) (by decide) q) ?_
          refine own_tp (.int mm) 134 (fun _ q => XS.iload X0.here hx rfl (hb hby at_132) rfl q) ?_
          refine own_tp (.int (3 : Int32)) 135 (fun _ q => XS.iconst X0.here hx rfl (hb hby at_134) q) ?_
          by_cases c202 : mm = (3 : Int32)
          ·
            refine own_d2 138 (fun _ q => XS.icmpNo X0.here hx rfl (hb hby at_135) rfl (teq c202).2 q) ?_
            let L_203 : Array Slot := #[.val (.int p0), .val (.int p1), .val (.int p2), .val (.int p3), .val (.int p4), .val (.int p5), .val (.int (1 : Int32)), .val (.int mm), .val (.int cc), .unset, .unset, .unset]
            obtain ⟨T204, h204, X204, e204, E204, A204, D204, -, st204⟩ := newO X0 hx hZ hown (hw _ (List.mem_of_getElem? (i := 1) rfl)) (hw _ (List.mem_of_getElem? (i := 2) rfl)) (hw _ (List.mem_of_getElem? (i := 3) rfl)) e0 (g := (mkF m 138 L_203 [])) rfl (hb hby at_138) (by decide) (by decide)
            obtain ⟨b204, g204⟩ : ∃ z, z = h0.size := ⟨_, rfl⟩
            rw [← g204] at A204 D204 st204
            have ge204 : n0 ≤ b204 := Nat.le_trans Z0 (Nat.le_of_eq g204.symm)
            have O204 := Old.ext O0 E204
            have Z204 : n0 ≤ h204.size := Nat.le_trans Z0 E204.1
            have Wd204 := Wd0.ext E204
            have G204 : Safe Z own_EL s.vm h204 b204 := Safe.ext E204 Wd0.chv (Safe.new (Nat.le_of_eq g204.symm))
            have Fcoder_204 : Fld Z h204 b204 "java/lang/String" "coder" "B" (.int (0 : Int32)) := D204 (Or.inr (hw _ (List.mem_of_getElem? (i := 32) rfl))) (ty := .byte) (by decide)
            have Fvalue_204 : Fld Z h204 b204 "java/lang/String" "value" "[B" .null := D204 (Or.inr (hw _ (List.mem_of_getElem? (i := 34) rfl))) (ty := (.array .byte)) (by decide)
            refine own_tp (.ref b204) 141 st204 ?_
            refine own_tp (.ref b204) 142 (fun _ q => XS.dup X204.here hx rfl (hb hby at_141) rfl rfl q) ?_
            refine own_tp (.int (1 : Int32)) 144 (fun _ q => XS.iload X204.here hx rfl (hb hby at_142) rfl q) ?_
            refine own_tp (.int p2) 145 (fun _ q => XS.iloadN X204.here hx rfl (hb hby at_144) rfl q) ?_
            refine own_tp (.int (1 : Int32)) 146 (fun _ q => XS.iconst X204.here hx rfl (hb hby at_145) q) ?_
            refine own_t2 (.int (p2 &&& (1 : Int32))) 147 (fun _ q => XS.iand X204.here hx rfl (hb hby at_146) rfl q) ?_
            by_cases c205 : (p2 &&& (1 : Int32)) = (0 : Int32)
            ·
              refine own_d1 154 (fun _ q => XS.ifYes X204.here hx rfl (pc0 := 147) (pc' := 154) rfl (hb hby at_147) rfl ((if0 _ _).trans (teq c205).1) (by decide) (by decide) q) ?_
              refine own_tp (.int (0 : Int32)) 155 (fun _ q => XS.iconst X204.here hx rfl (hb hby at_154) q) ?_
              obtain ⟨_, _, ⟨T206, L206, k206, n206⟩, -, X206, ⟨Lc206, hQ206, l206, y206, z206⟩, st206⟩ := Jvm.LawKit.callS X204 hx (y := (⟨"com/example/leastwise/leastwise/core/AuthorizableTypeOfPinLaw", "truncated", "(IZ)[C"⟩ : MethodName)) hown (mvT hZ (hw _ (List.mem_of_getElem? (i := 4) rfl))) (mvT hZ (hw _ (List.mem_of_getElem? (i := 5) rfl))) (mvT hZ (hw _ (List.mem_of_getElem? (i := 6) rfl))) (mvT hZ (hw _ (List.mem_of_getElem? (i := 7) rfl))) (by decide) (backOf (W := 2) (rm17 l Z a0 hw [] h204 n0 Z204) hZ (hw _ (List.mem_of_getElem? (i := 7) rfl)) (hw _ (List.mem_of_getElem? (i := 6) rfl)) (by decide) (by decide)) (g := (mkF m 155 L_203 [(.int (0 : Int32)), (.int (1 : Int32)), (.ref b204), (.ref b204)])) rfl (by rw [hml]; rfl) (argsL := [(.int (1 : Int32)), (.int (0 : Int32))]) (rest := [(.ref b204), (.ref b204)]) (lenOf pd0_4 rfl) rfl (by show 2 * 0 + _ ≤ _; exact Nat.le_of_eq rfl) (hb hby at_155) (fun _ _ => ⟨rfl, e204, (by decide : 1 + 1 ≤ _), (by decide : 4 + 7 ≤ _)⟩)
              dsimp only [Pt.U, Pt.locs, Pt.cells, Pt.slots] at X206 l206 y206 z206 st206 hQ206
              subst l206 y206 z206
              obtain ⟨cb206, kc206, rfl, Nq206, Kp206, ge206, sz206, V206⟩ := hQ206
              have ne207 : b204 ≠ cb206 := Nat.ne_of_lt (Nat.lt_of_lt_of_le A204.lt sz206)
              have N206 := Fr.app N0 Nq206
              have O206 := Old.keep O204 Kp206 all0
              have Z206 : n0 ≤ T206.heap.size := Nat.le_trans Z204 Kp206.1
              have Wd206 := Wd204.keep Kp206 all0
              refine own_t2 (.ref cb206) 158 st206 ?_
              have f209 := (Safe.keep Kp206 all0 Wd204.chv G204)
              have hws : ∀ d ∈ StrChars.Road.words, d.before a0 Z = true := fun d hd => hw d ((by decide +kernel : ∀ d ∈ StrChars.Road.words, d ∈ tables_1) d hd)
              have hp208 : ∀ c ∈ ([(114 : Int32), (101 : Int32), (112 : Int32), (58 : Int32), (85 : Int32), (115 : Int32), (101 : Int32)] : List Int32), ¬ c < 0 ∧ ¬ (255 : Int32) < c := by
                intro c hc
                simp only [List.mem_cons, List.not_mem_nil, or_false] at hc
                rcases hc with rfl | rfl | rfl | rfl | rfl | rfl | rfl
                · exact (by decide)
                · exact (by decide)
                · exact (by decide)
                · exact (by decide)
                · exact (by decide)
                · exact (by decide)
                · exact (by decide)
              have f210 := (A204.keep Kp206)
              have f211 := (Fvalue_204.keep Kp206 nin0)
              have f212 := (Fcoder_204.keep Kp206 nin0)
              obtain ⟨_, _, ⟨T213, L213, k213, n213⟩, -, X213, ⟨Lc213, hQ213, l213, y213, z213⟩, st213⟩ := X206.specialBack hx (y := (⟨"java/lang/String", "<init>", "([C)V"⟩ : MethodName)) rfl hown (mvT hZ (hw _ (List.mem_of_getElem? (i := 9) rfl))) (mvT hZ (hw _ (List.mem_of_getElem? (i := 10) rfl))) (mvT hZ (hw _ (List.mem_of_getElem? (i := 11) rfl))) (by decide) (StrChars.Road.backV (W := 1) hZ hws (kI := 4) (hw _ (List.mem_of_getElem? (i := 2) rfl)) (cs := ([(114 : Int32), (101 : Int32), (112 : Int32), (58 : Int32), (85 : Int32), (115 : Int32), (101 : Int32)] : List Int32)) (bs := ([(114 : Int32), (101 : Int32), (112 : Int32), (58 : Int32), (85 : Int32), (115 : Int32), (101 : Int32)] : List Int32).map (fun c => c.toInt8.toInt32)) (n := 7) ge204 Z206 f210 f211 f212 V206 (Sc.ext O206.2) P5 rfl rfl (by decide) (by decide) hp208 rfl (by decide) (by decide)) (g := (mkF m 158 L_203 [(.ref cb206), (.ref b204), (.ref b204)])) rfl (by rw [hml]; rfl) (Steps.refl _) (a := b204) (argsL := [(.ref cb206)]) (rest := [(.ref b204)]) (lenOf pd0_2 rfl) rfl (by show 2 * 0 + _ ≤ _; exact Nat.le_of_eq rfl) (hb hby at_158) (fun _ _ => ⟨rfl, rfl, (by decide : 2 + 1 ≤ _), (by decide : 11 + 7 ≤ _)⟩)
              dsimp only [Pt.U, Pt.locs, Pt.cells, Pt.slots] at X213 l213 y213 z213 st213 hQ213
              subst l213 y213 z213
              obtain ⟨rfl, Nq213, Kp213, A213, Cd213, t213, kb213, gt213, ht213, nt213, Vl213, V213⟩ := hQ213
              have N213 := Fr.app N206 Nq213
              have O213 := Old.keep O206 Kp213 (allS ge204 all0)
              have Z213 : n0 ≤ T213.heap.size := Nat.le_trans Z206 Kp213.1
              have Wd213 := Wd206.keep Kp213 (allS f209 all0)
              have Ts213 : own_St Z T213.heap b204 t213 kb213 ([(114 : Int32), (101 : Int32), (112 : Int32), (58 : Int32), (85 : Int32), (115 : Int32), (101 : Int32)] : List Int32) := ⟨A213, Vl213, Cd213, V213, hp208, by simp⟩
              refine own_csR [(.ref b204)] 161 st213 ?_
              let L_214 : Array Slot := #[.val (.int p0), .val (.int p1), .val (.int p2), .val (.int p3), .val (.int p4), .val (.int p5), .val (.int (1 : Int32)), .val (.int mm), .val (.int cc), .val (.ref b204), .unset, .unset]
              refine own_ls L_214 163 (fun _ q => XS.astore X213.here hx rfl (hb hby at_161) rfl rfl (l' := L_214) rfl q) ?_
              refine own_d0 231 (fun _ q => XS.goto X213.here hx rfl (pc0 := 163) (pc' := 231) rfl (hb hby at_163) (by decide) (by decide) q) ?_
              exact kj56 (.unset) (.unset) T213 _ s.vm T213.heap (.ref b204) (X213.more (by decide) (by decide)) N213 rfl Wd213 hown O213 Z213 rfl One.u One.u ⟨some _, Or.inr ⟨_, _, _, _, rfl, rfl, Ts213⟩, (fun q => by rcases q with q | q <;> (rw [c202] at q; exact absurd q (by decide)))⟩
            ·
              refine own_d1 150 (fun _ q => XS.ifNo X204.here hx rfl (hb hby at_147) rfl ((if0 _ _).trans (feq c205).1) q) ?_
              refine own_tp (.int (1 : Int32)) 151 (fun _ q => XS.iconst X204.here hx rfl (hb hby at_150) q) ?_
              refine own_d0 155 (fun _ q => XS.goto X204.here hx rfl (pc0 := 151) (pc' := 155) rfl (hb hby at_151) (by decide) (by decide) q) ?_
              obtain ⟨_, _, ⟨T215, L215, k215, n215⟩, -, X215, ⟨Lc215, hQ215, l215, y215, z215⟩, st215⟩ := Jvm.LawKit.callS X204 hx (y := (⟨"com/example/leastwise/leastwise/core/AuthorizableTypeOfPinLaw", "truncated", "(IZ)[C"⟩ : MethodName)) hown (mvT hZ (hw _ (List.mem_of_getElem? (i := 4) rfl))) (mvT hZ (hw _ (List.mem_of_getElem? (i := 5) rfl))) (mvT hZ (hw _ (List.mem_of_getElem? (i := 6) rfl))) (mvT hZ (hw _ (List.mem_of_getElem? (i := 7) rfl))) (by decide) (backOf (W := 2) (rm16 l Z a0 hw [] h204 n0 Z204) hZ (hw _ (List.mem_of_getElem? (i := 7) rfl)) (hw _ (List.mem_of_getElem? (i := 6) rfl)) (by decide) (by decide)) (g := (mkF m 155 L_203 [(.int (1 : Int32)), (.int (1 : Int32)), (.ref b204), (.ref b204)])) rfl (by rw [hml]; rfl) (argsL := [(.int (1 : Int32)), (.int (1 : Int32))]) (rest := [(.ref b204), (.ref b204)]) (lenOf pd0_4 rfl) rfl (by show 2 * 0 + _ ≤ _; exact Nat.le_of_eq rfl) (hb hby at_155) (fun _ _ => ⟨rfl, e204, (by decide : 1 + 1 ≤ _), (by decide : 4 + 7 ≤ _)⟩)
              dsimp only [Pt.U, Pt.locs, Pt.cells, Pt.slots] at X215 l215 y215 z215 st215 hQ215
              subst l215 y215 z215
              obtain ⟨cb215, kc215, rfl, Nq215, Kp215, ge215, sz215, V215⟩ := hQ215
              have ne216 : b204 ≠ cb215 := Nat.ne_of_lt (Nat.lt_of_lt_of_le A204.lt sz215)
              have N215 := Fr.app N0 Nq215
              have O215 := Old.keep O204 Kp215 all0
              have Z215 : n0 ≤ T215.heap.size := Nat.le_trans Z204 Kp215.1
              have Wd215 := Wd204.keep Kp215 all0
              refine own_t2 (.ref cb215) 158 st215 ?_
              have f218 := (Safe.keep Kp215 all0 Wd204.chv G204)
              have hws : ∀ d ∈ StrChars.Road.words, d.before a0 Z = true := fun d hd => hw d ((by decide +kernel : ∀ d ∈ StrChars.Road.words, d ∈ tables_1) d hd)
              have hp217 : ∀ c ∈ ([(101 : Int32), (112 : Int32), (58 : Int32), (85 : Int32), (115 : Int32), (101 : Int32), (114 : Int32)] : List Int32), ¬ c < 0 ∧ ¬ (255 : Int32) < c := by
                intro c hc
                simp only [List.mem_cons, List.not_mem_nil, or_false] at hc
                rcases hc with rfl | rfl | rfl | rfl | rfl | rfl | rfl
                · exact (by decide)
                · exact (by decide)
                · exact (by decide)
                · exact (by decide)
                · exact (by decide)
                · exact (by decide)
                · exact (by decide)
              have f219 := (A204.keep Kp215)
              have f220 := (Fvalue_204.keep Kp215 nin0)
              have f221 := (Fcoder_204.keep Kp215 nin0)
              obtain ⟨_, _, ⟨T222, L222, k222, n222⟩, -, X222, ⟨Lc222, hQ222, l222, y222, z222⟩, st222⟩ := X215.specialBack hx (y := (⟨"java/lang/String", "<init>", "([C)V"⟩ : MethodName)) rfl hown (mvT hZ (hw _ (List.mem_of_getElem? (i := 9) rfl))) (mvT hZ (hw _ (List.mem_of_getElem? (i := 10) rfl))) (mvT hZ (hw _ (List.mem_of_getElem? (i := 11) rfl))) (by decide) (StrChars.Road.backV (W := 1) hZ hws (kI := 4) (hw _ (List.mem_of_getElem? (i := 2) rfl)) (cs := ([(101 : Int32), (112 : Int32), (58 : Int32), (85 : Int32), (115 : Int32), (101 : Int32), (114 : Int32)] : List Int32)) (bs := ([(101 : Int32), (112 : Int32), (58 : Int32), (85 : Int32), (115 : Int32), (101 : Int32), (114 : Int32)] : List Int32).map (fun c => c.toInt8.toInt32)) (n := 7) ge204 Z215 f219 f220 f221 V215 (Sc.ext O215.2) P5 rfl rfl (by decide) (by decide) hp217 rfl (by decide) (by decide)) (g := (mkF m 158 L_203 [(.ref cb215), (.ref b204), (.ref b204)])) rfl (by rw [hml]; rfl) (Steps.refl _) (a := b204) (argsL := [(.ref cb215)]) (rest := [(.ref b204)]) (lenOf pd0_2 rfl) rfl (by show 2 * 0 + _ ≤ _; exact Nat.le_of_eq rfl) (hb hby at_158) (fun _ _ => ⟨rfl, rfl, (by decide : 2 + 1 ≤ _), (by decide : 11 + 7 ≤ _)⟩)
              dsimp only [Pt.U, Pt.locs, Pt.cells, Pt.slots] at X222 l222 y222 z222 st222 hQ222
              subst l222 y222 z222
              obtain ⟨rfl, Nq222, Kp222, A222, Cd222, t222, kb222, gt222, ht222, nt222, Vl222, V222⟩ := hQ222
              have N222 := Fr.app N215 Nq222
              have O222 := Old.keep O215 Kp222 (allS ge204 all0)
              have Z222 : n0 ≤ T222.heap.size := Nat.le_trans Z215 Kp222.1
              have Wd222 := Wd215.keep Kp222 (allS f218 all0)
              have Ts222 : own_St Z T222.heap b204 t222 kb222 ([(101 : Int32), (112 : Int32), (58 : Int32), (85 : Int32), (115 : Int32), (101 : Int32), (114 : Int32)] : List Int32) := ⟨A222, Vl222, Cd222, V222, hp217, by simp⟩
              refine own_csR [(.ref b204)] 161 st222 ?_
              let L_223 : Array Slot := #[.val (.int p0), .val (.int p1), .val (.int p2), .val (.int p3), .val (.int p4), .val (.int p5), .val (.int (1 : Int32)), .val (.int mm), .val (.int cc), .val (.ref b204), .unset, .unset]
              refine own_ls L_223 163 (fun _ q => XS.astore X222.here hx rfl (hb hby at_161) rfl rfl (l' := L_223) rfl q) ?_
              refine own_d0 231 (fun _ q => XS.goto X222.here hx rfl (pc0 := 163) (pc' := 231) rfl (hb hby at_163) (by decide) (by decide) q) ?_
              exact kj56 (.unset) (.unset) T222 _ s.vm T222.heap (.ref b204) (X222.more (by decide) (by decide)) N222 rfl Wd222 hown O222 Z222 rfl One.u One.u ⟨some _, Or.inr ⟨_, _, _, _, rfl, rfl, Ts222⟩, (fun q => by rcases q with q | q <;> (rw [c202] at q; exact absurd q (by decide)))⟩
          ·
            refine own_d2 166 (fun _ q => XS.icmpYes X0.here hx rfl (pc0 := 135) (pc' := 166) rfl (hb hby at_135) rfl (feq c202).2 (by decide) (by decide) q) ?_
            refine own_tp (.int mm) 168 (fun _ q => XS.iload X0.here hx rfl (hb hby at_166) rfl q) ?_
            refine own_tp (.int (1 : Int32)) 169 (fun _ q => XS.iconst X0.here hx rfl (hb hby at_168) q) ?_
            by_cases c224 : mm = (1 : Int32)
            ·
              refine own_d2 179 (fun _ q => XS.icmpYes X0.here hx rfl (pc0 := 169) (pc' := 179) rfl (hb hby at_169) rfl (teq c224).1 (by decide) (by decide) q) ?_
              refine own_tp (.int (1 : Int32)) 181 (fun _ q => XS.iload X0.here hx rfl (hb hby at_179) rfl q) ?_
              let L_225 : Array Slot := #[.val (.int p0), .val (.int p1), .val (.int p2), .val (.int p3), .val (.int p4), .val (.int p5), .val (.int (1 : Int32)), .val (.int mm), .val (.int cc), .unset, .unset, .unset]
              obtain ⟨_, _, ⟨T226, L226, k226, n226⟩, -, X226, ⟨Lc226, hQ226, l226, y226, z226⟩, st226⟩ := Jvm.LawKit.callS X0 hx (y := (⟨"com/example/leastwise/leastwise/core/AuthorizableTypeOfPinLaw", "full", "(I)[C"⟩ : MethodName)) hown (mvT hZ (hw _ (List.mem_of_getElem? (i := 81) rfl))) (mvT hZ (hw _ (List.mem_of_getElem? (i := 82) rfl))) (mvT hZ (hw _ (List.mem_of_getElem? (i := 6) rfl))) (mvT hZ (hw _ (List.mem_of_getElem? (i := 83) rfl))) (by decide) (backOf (W := 0) (rm14 l Z a0 hw [] h0 n0 Z0) hZ (hw _ (List.mem_of_getElem? (i := 83) rfl)) (hw _ (List.mem_of_getElem? (i := 6) rfl)) (by decide) (by decide)) (g := (mkF m 181 L_225 [(.int (1 : Int32))])) rfl (by rw [hml]; rfl) (argsL := [(.int (1 : Int32))]) (rest := []) (lenOf pd0_3 rfl) rfl (by show 2 * 0 + _ ≤ _; exact Nat.le_of_eq rfl) (hb hby at_181) (fun _ _ => ⟨rfl, e0, (by decide : 0 + 1 ≤ _), (by decide : 0 + 8 ≤ _)⟩)
              dsimp only [Pt.U, Pt.locs, Pt.cells, Pt.slots] at X226 l226 y226 z226 st226 hQ226
              subst l226 y226 z226
              obtain ⟨cb226, kc226, rfl, Nq226, Kp226, ge226, sz226, V226⟩ := hQ226
              have N226 := Fr.app N0 Nq226
              have O226 := Old.keep O0 Kp226 all0
              have Z226 : n0 ≤ T226.heap.size := Nat.le_trans Z0 Kp226.1
              have Wd226 := Wd0.keep Kp226 all0
              refine own_t1 (.ref cb226) 184 st226 ?_
              let L_227 : Array Slot := #[.val (.int p0), .val (.int p1), .val (.int p2), .val (.int p3), .val (.int p4), .val (.int p5), .val (.int (1 : Int32)), .val (.int mm), .val (.int cc), .unset, .val (.ref cb226), .unset]
              refine own_ls L_227 186 (fun _ q => XS.astore X226.here hx rfl (hb hby at_184) rfl rfl (l' := L_227) rfl q) ?_
              refine own_tp (.int p2) 187 (fun _ q => XS.iloadN X226.here hx rfl (hb hby at_186) rfl q) ?_
              refine own_tp (.int (2147483647 : Int32)) 189 (fun _ q => X226.ldcInt hx hown (mvT hZ (hw _ (List.mem_of_getElem? (i := 0) rfl))) (g := (mkF m 187 L_227 [(.int p2)])) rfl (hb hby at_187) _ q) ?_
              refine own_t2 (.int (p2 &&& (2147483647 : Int32))) 190 (fun _ q => XS.iand X226.here hx rfl (hb hby at_189) rfl q) ?_
              refine own_tp (.ref cb226) 192 (fun _ q => XS.aload X226.here hx rfl (hb hby at_190) rfl rfl q) ?_
              obtain ⟨cl228, Ar228, -, Sz228, Nn228, -, -⟩ := (id V226)
              refine own_t1 (.int (8 : Int32)) 193 (fun t q => X226.arraylength hx Ar228.1 (State.isArrayOf_alike hZ.alike Ar228.2.1) (g := (mkF m 192 L_227 [(.ref cb226), (.int (p2 &&& (2147483647 : Int32)))])) rfl rfl (hb hby at_192) _ (by rw [len_of Sz228 Nn228]; exact q)) ?_
              refine own_t2 (.int ((p2 &&& (2147483647 : Int32)) % (8 : Int32))) 194 (fun _ q => iremM (g := (mkF m 193 L_227 [(.int (8 : Int32)), (.int (p2 &&& (2147483647 : Int32)))])) X226 hx rfl (hb hby at_193) rfl (by decide) q) ?_
              obtain ⟨pp, epp, hpp⟩ := own_pos p2 (8 : Int32) 8 rfl (by decide)
              rw [epp]
              let L_229 : Array Slot := #[.val (.int p0), .val (.int p1), .val (.int p2), .val (.int p3), .val (.int p4), .val (.int p5), .val (.int (1 : Int32)), .val (.int mm), .val (.int cc), .unset, .val (.ref cb226), .val (.int pp)]
              refine own_ls L_229 196 (fun _ q => XS.istore X226.here hx rfl (hb hby at_194) rfl (l' := L_229) rfl q) ?_
              refine own_tp (.ref cb226) 198 (fun _ q => XS.aload X226.here hx rfl (hb hby at_196) rfl rfl q) ?_
              refine own_tp (.int pp) 200 (fun _ q => XS.iload X226.here hx rfl (hb hby at_198) rfl q) ?_
              refine own_tp (.int cc) 202 (fun _ q => XS.iload X226.here hx rfl (hb hby at_200) rfl q) ?_
              obtain ⟨cl230, Ar230, q230, S230, Nn230, H230, G230⟩ := (id V226)
              have hin230 : ¬ (pp < 0 ∨ cl230.slots.size ≤ (pp).toNatClampNeg) := inb_of S230 (own_inb (n := (8 : Int32)) rfl hpp)
              obtain ⟨T231, h231, X231, e231, W231, st231⟩ := stC X226 hx hZ rfl Ar230 (j := pp) hin230 (g := (mkF m 202 L_229 [(.int cc), (.int pp), (.ref cb226)])) rfl rfl (hb hby at_202)
              have V231 := Arv.set Ar230 q230 S230 Nn230 H230 G230 (fits_nar_char _) W231 pp.toNatClampNeg rfl (own_pn (m := 8) hpp)
              have N231 := Fr.snoc X231 N226 ge226
              have O231 := Old.wr O226 W231 ge226
              have Z231 : n0 ≤ h231.size := Nat.le_trans Z226 (Nat.le_of_eq W231.size.symm)
              have Wd231 := Wd226.wr W231 (own_safeV hZ.alike V226 (by simp))
              have V231' : Arv Z h231 cb226 kc226 .char (8 : Int32) (([(.int (114 : Int32)), (.int (101 : Int32)), (.int (112 : Int32)), (.int (58 : Int32)), (.int (85 : Int32)), (.int (115 : Int32)), (.int (101 : Int32)), (.int (114 : Int32))] : List Value).set pp.toNatClampNeg (.int cc)) (.int (0 : Int32)) := by have q := V231; first | (rw [own_narc (own_up hcc)] at q; exact q) | (rw [own_i2c (own_up hcc)] at q; exact q)
              refine own_cs [] 203 st231 ?_
              obtain ⟨T232, h232, X232, e232, E232, A232, D232, -, st232⟩ := newO X231 hx hZ hown (hw _ (List.mem_of_getElem? (i := 1) rfl)) (hw _ (List.mem_of_getElem? (i := 2) rfl)) (hw _ (List.mem_of_getElem? (i := 3) rfl)) e231 (g := (mkF m 203 L_229 [])) rfl (hb hby at_203) (by decide) (by decide)
              obtain ⟨b232, g232⟩ : ∃ z, z = h231.size := ⟨_, rfl⟩
              rw [← g232] at A232 D232 st232
              have ge232 : n0 ≤ b232 := Nat.le_trans Z231 (Nat.le_of_eq g232.symm)
              have ne233 : cb226 ≠ b232 := Nat.ne_of_lt (Nat.lt_of_lt_of_le V231'.lt (Nat.le_of_eq g232.symm))
              have O232 := Old.ext O231 E232
              have Z232 : n0 ≤ h232.size := Nat.le_trans Z231 E232.1
              have Wd232 := Wd231.ext E232
              have G232 : Safe Z own_EL s.vm h232 b232 := Safe.ext E232 Wd231.chv (Safe.new (Nat.le_of_eq g232.symm))
              have Fcoder_232 : Fld Z h232 b232 "java/lang/String" "coder" "B" (.int (0 : Int32)) := D232 (Or.inr (hw _ (List.mem_of_getElem? (i := 32) rfl))) (ty := .byte) (by decide)
              have Fvalue_232 : Fld Z h232 b232 "java/lang/String" "value" "[B" .null := D232 (Or.inr (hw _ (List.mem_of_getElem? (i := 34) rfl))) (ty := (.array .byte)) (by decide)
              refine own_tp (.ref b232) 206 st232 ?_
              refine own_tp (.ref b232) 207 (fun _ q => XS.dup X232.here hx rfl (hb hby at_206) rfl rfl q) ?_
              refine own_tp (.ref cb226) 209 (fun _ q => XS.aload X232.here hx rfl (hb hby at_207) rfl rfl q) ?_
              have hws : ∀ d ∈ StrChars.Road.words, d.before a0 Z = true := fun d hd => hw d ((by decide +kernel : ∀ d ∈ StrChars.Road.words, d ∈ tables_1) d hd)
              have hp234 : ∀ c ∈ (([(114 : Int32), (101 : Int32), (112 : Int32), (58 : Int32), (85 : Int32), (115 : Int32), (101 : Int32), (114 : Int32)] : List Int32).set pp.toNatClampNeg cc), ¬ c < 0 ∧ ¬ (255 : Int32) < c := own_setch (by decide) (own_ch hcc)
              have f235 := (V231'.ext E232)
              have Vs234 : Arv Z h232 cb226 kc226 .char (8 : Int32) ((([(114 : Int32), (101 : Int32), (112 : Int32), (58 : Int32), (85 : Int32), (115 : Int32), (101 : Int32), (114 : Int32)] : List Int32).set pp.toNatClampNeg cc).map Value.int) (.int (0 : Int32)) := by rw [List.map_set]; exact f235
              obtain ⟨_, _, ⟨T236, L236, k236, n236⟩, -, X236, ⟨Lc236, hQ236, l236, y236, z236⟩, st236⟩ := X232.specialBack hx (y := (⟨"java/lang/String", "<init>", "([C)V"⟩ : MethodName)) rfl hown (mvT hZ (hw _ (List.mem_of_getElem? (i := 9) rfl))) (mvT hZ (hw _ (List.mem_of_getElem? (i := 10) rfl))) (mvT hZ (hw _ (List.mem_of_getElem? (i := 11) rfl))) (by decide) (StrChars.Road.backV (W := 1) hZ hws (kI := 4) (hw _ (List.mem_of_getElem? (i := 2) rfl)) (cs := (([(114 : Int32), (101 : Int32), (112 : Int32), (58 : Int32), (85 : Int32), (115 : Int32), (101 : Int32), (114 : Int32)] : List Int32).set pp.toNatClampNeg cc)) (bs := (([(114 : Int32), (101 : Int32), (112 : Int32), (58 : Int32), (85 : Int32), (115 : Int32), (101 : Int32), (114 : Int32)] : List Int32).set pp.toNatClampNeg cc).map (fun c => c.toInt8.toInt32)) (n := 8) ge232 Z232 A232 Fvalue_232 Fcoder_232 Vs234 (Sc.ext O232.2) P5 (by simp) rfl (by decide) (by decide) hp234 rfl (by decide) (by decide)) (g := (mkF m 209 L_229 [(.ref cb226), (.ref b232), (.ref b232)])) rfl (by rw [hml]; rfl) (Steps.refl _) (a := b232) (argsL := [(.ref cb226)]) (rest := [(.ref b232)]) (lenOf pd0_2 rfl) rfl (by show 2 * 0 + _ ≤ _; exact Nat.le_of_eq rfl) (hb hby at_209) (fun _ _ => ⟨rfl, e232, (by decide : 2 + 1 ≤ _), (by decide : 12 + 8 ≤ _)⟩)
              dsimp only [Pt.U, Pt.locs, Pt.cells, Pt.slots] at X236 l236 y236 z236 st236 hQ236
              subst l236 y236 z236
              obtain ⟨rfl, Nq236, Kp236, A236, Cd236, t236, kb236, gt236, ht236, nt236, Vl236, V236⟩ := hQ236
              have N236 := Fr.app N231 Nq236
              have O236 := Old.keep O232 Kp236 (allS ge232 all0)
              have Z236 : n0 ≤ T236.heap.size := Nat.le_trans Z232 Kp236.1
              have Wd236 := Wd232.keep Kp236 (allS G232 all0)
              have Ts236 : own_St Z T236.heap b232 t236 kb236 (([(114 : Int32), (101 : Int32), (112 : Int32), (58 : Int32), (85 : Int32), (115 : Int32), (101 : Int32), (114 : Int32)] : List Int32).set pp.toNatClampNeg cc) := ⟨A236, Vl236, Cd236, by rw [show ((([(114 : Int32), (101 : Int32), (112 : Int32), (58 : Int32), (85 : Int32), (115 : Int32), (101 : Int32), (114 : Int32)] : List Int32).set pp.toNatClampNeg cc)).length = 8 from by simp]; exact V236, hp234, by simp⟩
              refine own_csR [(.ref b232)] 212 st236 ?_
              let L_237 : Array Slot := #[.val (.int p0), .val (.int p1), .val (.int p2), .val (.int p3), .val (.int p4), .val (.int p5), .val (.int (1 : Int32)), .val (.int mm), .val (.int cc), .val (.ref b232), .val (.ref cb226), .val (.int pp)]
              refine own_ls L_237 214 (fun _ q => XS.astore X236.here hx rfl (hb hby at_212) rfl rfl (l' := L_237) rfl q) ?_
              refine own_d0 231 (fun _ q => XS.goto X236.here hx rfl (pc0 := 214) (pc' := 231) rfl (hb hby at_214) (by decide) (by decide) q) ?_
              exact kj56 (.val (.ref cb226)) (.val (.int pp)) T236 _ s.vm T236.heap (.ref b232) (X236.more (by decide) (by decide)) N236 rfl Wd236 hown O236 Z236 rfl (One.val rfl) (One.val rfl) ⟨some _, Or.inr ⟨_, _, _, _, rfl, rfl, Ts236⟩, (fun q => by rcases q with q | q <;> (rw [c224] at q; exact absurd q (by decide)))⟩
            ·
              refine own_d2 172 (fun _ q => XS.icmpNo X0.here hx rfl (hb hby at_169) rfl (feq c224).1 q) ?_
              refine own_tp (.int mm) 174 (fun _ q => XS.iload X0.here hx rfl (hb hby at_172) rfl q) ?_
              refine own_tp (.int (6 : Int32)) 176 (fun _ q => XS.bipush X0.here hx rfl (hb hby at_174) q) ?_
              by_cases c238 : mm = (6 : Int32)
              ·
                refine own_d2 179 (fun _ q => XS.icmpNo X0.here hx rfl (hb hby at_176) rfl (teq c238).2 q) ?_
                refine own_tp (.int (1 : Int32)) 181 (fun _ q => XS.iload X0.here hx rfl (hb hby at_179) rfl q) ?_
                let L_239 : Array Slot := #[.val (.int p0), .val (.int p1), .val (.int p2), .val (.int p3), .val (.int p4), .val (.int p5), .val (.int (1 : Int32)), .val (.int mm), .val (.int cc), .unset, .unset, .unset]
                obtain ⟨_, _, ⟨T240, L240, k240, n240⟩, -, X240, ⟨Lc240, hQ240, l240, y240, z240⟩, st240⟩ := Jvm.LawKit.callS X0 hx (y := (⟨"com/example/leastwise/leastwise/core/AuthorizableTypeOfPinLaw", "full", "(I)[C"⟩ : MethodName)) hown (mvT hZ (hw _ (List.mem_of_getElem? (i := 81) rfl))) (mvT hZ (hw _ (List.mem_of_getElem? (i := 82) rfl))) (mvT hZ (hw _ (List.mem_of_getElem? (i := 6) rfl))) (mvT hZ (hw _ (List.mem_of_getElem? (i := 83) rfl))) (by decide) (backOf (W := 0) (rm14 l Z a0 hw [] h0 n0 Z0) hZ (hw _ (List.mem_of_getElem? (i := 83) rfl)) (hw _ (List.mem_of_getElem? (i := 6) rfl)) (by decide) (by decide)) (g := (mkF m 181 L_239 [(.int (1 : Int32))])) rfl (by rw [hml]; rfl) (argsL := [(.int (1 : Int32))]) (rest := []) (lenOf pd0_3 rfl) rfl (by show 2 * 0 + _ ≤ _; exact Nat.le_of_eq rfl) (hb hby at_181) (fun _ _ => ⟨rfl, e0, (by decide : 0 + 1 ≤ _), (by decide : 0 + 8 ≤ _)⟩)
                dsimp only [Pt.U, Pt.locs, Pt.cells, Pt.slots] at X240 l240 y240 z240 st240 hQ240
                subst l240 y240 z240
                obtain ⟨cb240, kc240, rfl, Nq240, Kp240, ge240, sz240, V240⟩ := hQ240
                have N240 := Fr.app N0 Nq240
                have O240 := Old.keep O0 Kp240 all0
                have Z240 : n0 ≤ T240.heap.size := Nat.le_trans Z0 Kp240.1
                have Wd240 := Wd0.keep Kp240 all0
                refine own_t1 (.ref cb240) 184 st240 ?_
                let L_241 : Array Slot := #[.val (.int p0), .val (.int p1), .val (.int p2), .val (.int p3), .val (.int p4), .val (.int p5), .val (.int (1 : Int32)), .val (.int mm), .val (.int cc), .unset, .val (.ref cb240), .unset]
                refine own_ls L_241 186 (fun _ q => XS.astore X240.here hx rfl (hb hby at_184) rfl rfl (l' := L_241) rfl q) ?_
                refine own_tp (.int p2) 187 (fun _ q => XS.iloadN X240.here hx rfl (hb hby at_186) rfl q) ?_
                refine own_tp (.int (2147483647 : Int32)) 189 (fun _ q => X240.ldcInt hx hown (mvT hZ (hw _ (List.mem_of_getElem? (i := 0) rfl))) (g := (mkF m 187 L_241 [(.int p2)])) rfl (hb hby at_187) _ q) ?_
                refine own_t2 (.int (p2 &&& (2147483647 : Int32))) 190 (fun _ q => XS.iand X240.here hx rfl (hb hby at_189) rfl q) ?_
                refine own_tp (.ref cb240) 192 (fun _ q => XS.aload X240.here hx rfl (hb hby at_190) rfl rfl q) ?_
                obtain ⟨cl242, Ar242, -, Sz242, Nn242, -, -⟩ := (id V240)
                refine own_t1 (.int (8 : Int32)) 193 (fun t q => X240.arraylength hx Ar242.1 (State.isArrayOf_alike hZ.alike Ar242.2.1) (g := (mkF m 192 L_241 [(.ref cb240), (.int (p2 &&& (2147483647 : Int32)))])) rfl rfl (hb hby at_192) _ (by rw [len_of Sz242 Nn242]; exact q)) ?_
                refine own_t2 (.int ((p2 &&& (2147483647 : Int32)) % (8 : Int32))) 194 (fun _ q => iremM (g := (mkF m 193 L_241 [(.int (8 : Int32)), (.int (p2 &&& (2147483647 : Int32)))])) X240 hx rfl (hb hby at_193) rfl (by decide) q) ?_
                obtain ⟨pp, epp, hpp⟩ := own_pos p2 (8 : Int32) 8 rfl (by decide)
                rw [epp]
                let L_243 : Array Slot := #[.val (.int p0), .val (.int p1), .val (.int p2), .val (.int p3), .val (.int p4), .val (.int p5), .val (.int (1 : Int32)), .val (.int mm), .val (.int cc), .unset, .val (.ref cb240), .val (.int pp)]
                refine own_ls L_243 196 (fun _ q => XS.istore X240.here hx rfl (hb hby at_194) rfl (l' := L_243) rfl q) ?_
                refine own_tp (.ref cb240) 198 (fun _ q => XS.aload X240.here hx rfl (hb hby at_196) rfl rfl q) ?_
                refine own_tp (.int pp) 200 (fun _ q => XS.iload X240.here hx rfl (hb hby at_198) rfl q) ?_
                refine own_tp (.int cc) 202 (fun _ q => XS.iload X240.here hx rfl (hb hby at_200) rfl q) ?_
                obtain ⟨cl244, Ar244, q244, S244, Nn244, H244, G244⟩ := (id V240)
                have hin244 : ¬ (pp < 0 ∨ cl244.slots.size ≤ (pp).toNatClampNeg) := inb_of S244 (own_inb (n := (8 : Int32)) rfl hpp)
                obtain ⟨T245, h245, X245, e245, W245, st245⟩ := stC X240 hx hZ rfl Ar244 (j := pp) hin244 (g := (mkF m 202 L_243 [(.int cc), (.int pp), (.ref cb240)])) rfl rfl (hb hby at_202)
                have V245 := Arv.set Ar244 q244 S244 Nn244 H244 G244 (fits_nar_char _) W245 pp.toNatClampNeg rfl (own_pn (m := 8) hpp)
                have N245 := Fr.snoc X245 N240 ge240
                have O245 := Old.wr O240 W245 ge240
                have Z245 : n0 ≤ h245.size := Nat.le_trans Z240 (Nat.le_of_eq W245.size.symm)
                have Wd245 := Wd240.wr W245 (own_safeV hZ.alike V240 (by simp))
                have V245' : Arv Z h245 cb240 kc240 .char (8 : Int32) (([(.int (114 : Int32)), (.int (101 : Int32)), (.int (112 : Int32)), (.int (58 : Int32)), (.int (85 : Int32)), (.int (115 : Int32)), (.int (101 : Int32)), (.int (114 : Int32))] : List Value).set pp.toNatClampNeg (.int cc)) (.int (0 : Int32)) := by have q := V245; first | (rw [own_narc (own_up hcc)] at q; exact q) | (rw [own_i2c (own_up hcc)] at q; exact q)
                refine own_cs [] 203 st245 ?_
                obtain ⟨T246, h246, X246, e246, E246, A246, D246, -, st246⟩ := newO X245 hx hZ hown (hw _ (List.mem_of_getElem? (i := 1) rfl)) (hw _ (List.mem_of_getElem? (i := 2) rfl)) (hw _ (List.mem_of_getElem? (i := 3) rfl)) e245 (g := (mkF m 203 L_243 [])) rfl (hb hby at_203) (by decide) (by decide)
                obtain ⟨b246, g246⟩ : ∃ z, z = h245.size := ⟨_, rfl⟩
                rw [← g246] at A246 D246 st246
                have ge246 : n0 ≤ b246 := Nat.le_trans Z245 (Nat.le_of_eq g246.symm)
                have ne247 : cb240 ≠ b246 := Nat.ne_of_lt (Nat.lt_of_lt_of_le V245'.lt (Nat.le_of_eq g246.symm))
                have O246 := Old.ext O245 E246
                have Z246 : n0 ≤ h246.size := Nat.le_trans Z245 E246.1
                have Wd246 := Wd245.ext E246
                have G246 : Safe Z own_EL s.vm h246 b246 := Safe.ext E246 Wd245.chv (Safe.new (Nat.le_of_eq g246.symm))
                have Fcoder_246 : Fld Z h246 b246 "java/lang/String" "coder" "B" (.int (0 : Int32)) := D246 (Or.inr (hw _ (List.mem_of_getElem? (i := 32) rfl))) (ty := .byte) (by decide)
                have Fvalue_246 : Fld Z h246 b246 "java/lang/String" "value" "[B" .null := D246 (Or.inr (hw _ (List.mem_of_getElem? (i := 34) rfl))) (ty := (.array .byte)) (by decide)
                refine own_tp (.ref b246) 206 st246 ?_
                refine own_tp (.ref b246) 207 (fun _ q => XS.dup X246.here hx rfl (hb hby at_206) rfl rfl q) ?_
                refine own_tp (.ref cb240) 209 (fun _ q => XS.aload X246.here hx rfl (hb hby at_207) rfl rfl q) ?_
                have hws : ∀ d ∈ StrChars.Road.words, d.before a0 Z = true := fun d hd => hw d ((by decide +kernel : ∀ d ∈ StrChars.Road.words, d ∈ tables_1) d hd)
                have hp248 : ∀ c ∈ (([(114 : Int32), (101 : Int32), (112 : Int32), (58 : Int32), (85 : Int32), (115 : Int32), (101 : Int32), (114 : Int32)] : List Int32).set pp.toNatClampNeg cc), ¬ c < 0 ∧ ¬ (255 : Int32) < c := own_setch (by decide) (own_ch hcc)
                have f249 := (V245'.ext E246)
                have Vs248 : Arv Z h246 cb240 kc240 .char (8 : Int32) ((([(114 : Int32), (101 : Int32), (112 : Int32), (58 : Int32), (85 : Int32), (115 : Int32), (101 : Int32), (114 : Int32)] : List Int32).set pp.toNatClampNeg cc).map Value.int) (.int (0 : Int32)) := by rw [List.map_set]; exact f249
                obtain ⟨_, _, ⟨T250, L250, k250, n250⟩, -, X250, ⟨Lc250, hQ250, l250, y250, z250⟩, st250⟩ := X246.specialBack hx (y := (⟨"java/lang/String", "<init>", "([C)V"⟩ : MethodName)) rfl hown (mvT hZ (hw _ (List.mem_of_getElem? (i := 9) rfl))) (mvT hZ (hw _ (List.mem_of_getElem? (i := 10) rfl))) (mvT hZ (hw _ (List.mem_of_getElem? (i := 11) rfl))) (by decide) (StrChars.Road.backV (W := 1) hZ hws (kI := 4) (hw _ (List.mem_of_getElem? (i := 2) rfl)) (cs := (([(114 : Int32), (101 : Int32), (112 : Int32), (58 : Int32), (85 : Int32), (115 : Int32), (101 : Int32), (114 : Int32)] : List Int32).set pp.toNatClampNeg cc)) (bs := (([(114 : Int32), (101 : Int32), (112 : Int32), (58 : Int32), (85 : Int32), (115 : Int32), (101 : Int32), (114 : Int32)] : List Int32).set pp.toNatClampNeg cc).map (fun c => c.toInt8.toInt32)) (n := 8) ge246 Z246 A246 Fvalue_246 Fcoder_246 Vs248 (Sc.ext O246.2) P5 (by simp) rfl (by decide) (by decide) hp248 rfl (by decide) (by decide)) (g := (mkF m 209 L_243 [(.ref cb240), (.ref b246), (.ref b246)])) rfl (by rw [hml]; rfl) (Steps.refl _) (a := b246) (argsL := [(.ref cb240)]) (rest := [(.ref b246)]) (lenOf pd0_2 rfl) rfl (by show 2 * 0 + _ ≤ _; exact Nat.le_of_eq rfl) (hb hby at_209) (fun _ _ => ⟨rfl, e246, (by decide : 2 + 1 ≤ _), (by decide : 12 + 8 ≤ _)⟩)
                dsimp only [Pt.U, Pt.locs, Pt.cells, Pt.slots] at X250 l250 y250 z250 st250 hQ250
                subst l250 y250 z250
                obtain ⟨rfl, Nq250, Kp250, A250, Cd250, t250, kb250, gt250, ht250, nt250, Vl250, V250⟩ := hQ250
                have N250 := Fr.app N245 Nq250
                have O250 := Old.keep O246 Kp250 (allS ge246 all0)
                have Z250 : n0 ≤ T250.heap.size := Nat.le_trans Z246 Kp250.1
                have Wd250 := Wd246.keep Kp250 (allS G246 all0)
                have Ts250 : own_St Z T250.heap b246 t250 kb250 (([(114 : Int32), (101 : Int32), (112 : Int32), (58 : Int32), (85 : Int32), (115 : Int32), (101 : Int32), (114 : Int32)] : List Int32).set pp.toNatClampNeg cc) := ⟨A250, Vl250, Cd250, by rw [show ((([(114 : Int32), (101 : Int32), (112 : Int32), (58 : Int32), (85 : Int32), (115 : Int32), (101 : Int32), (114 : Int32)] : List Int32).set pp.toNatClampNeg cc)).length = 8 from by simp]; exact V250, hp248, by simp⟩
                refine own_csR [(.ref b246)] 212 st250 ?_
                let L_251 : Array Slot := #[.val (.int p0), .val (.int p1), .val (.int p2), .val (.int p3), .val (.int p4), .val (.int p5), .val (.int (1 : Int32)), .val (.int mm), .val (.int cc), .val (.ref b246), .val (.ref cb240), .val (.int pp)]
                refine own_ls L_251 214 (fun _ q => XS.astore X250.here hx rfl (hb hby at_212) rfl rfl (l' := L_251) rfl q) ?_
                refine own_d0 231 (fun _ q => XS.goto X250.here hx rfl (pc0 := 214) (pc' := 231) rfl (hb hby at_214) (by decide) (by decide) q) ?_
                exact kj56 (.val (.ref cb240)) (.val (.int pp)) T250 _ s.vm T250.heap (.ref b246) (X250.more (by decide) (by decide)) N250 rfl Wd250 hown O250 Z250 rfl (One.val rfl) (One.val rfl) ⟨some _, Or.inr ⟨_, _, _, _, rfl, rfl, Ts250⟩, (fun q => by rcases q with q | q <;> (rw [c238] at q; exact absurd q (by decide)))⟩
              ·
                refine own_d2 217 (fun _ q => XS.icmpYes X0.here hx rfl (pc0 := 176) (pc' := 217) rfl (hb hby at_176) rfl (feq c238).2 (by decide) (by decide) q) ?_
                let L_252 : Array Slot := #[.val (.int p0), .val (.int p1), .val (.int p2), .val (.int p3), .val (.int p4), .val (.int p5), .val (.int (1 : Int32)), .val (.int mm), .val (.int cc), .unset, .unset, .unset]
                obtain ⟨T253, h253, X253, e253, E253, A253, D253, -, st253⟩ := newO X0 hx hZ hown (hw _ (List.mem_of_getElem? (i := 1) rfl)) (hw _ (List.mem_of_getElem? (i := 2) rfl)) (hw _ (List.mem_of_getElem? (i := 3) rfl)) e0 (g := (mkF m 217 L_252 [])) rfl (hb hby at_217) (by decide) (by decide)
                obtain ⟨b253, g253⟩ : ∃ z, z = h0.size := ⟨_, rfl⟩
                rw [← g253] at A253 D253 st253
                have ge253 : n0 ≤ b253 := Nat.le_trans Z0 (Nat.le_of_eq g253.symm)
                have O253 := Old.ext O0 E253
                have Z253 : n0 ≤ h253.size := Nat.le_trans Z0 E253.1
                have Wd253 := Wd0.ext E253
                have G253 : Safe Z own_EL s.vm h253 b253 := Safe.ext E253 Wd0.chv (Safe.new (Nat.le_of_eq g253.symm))
                have Fcoder_253 : Fld Z h253 b253 "java/lang/String" "coder" "B" (.int (0 : Int32)) := D253 (Or.inr (hw _ (List.mem_of_getElem? (i := 32) rfl))) (ty := .byte) (by decide)
                have Fvalue_253 : Fld Z h253 b253 "java/lang/String" "value" "[B" .null := D253 (Or.inr (hw _ (List.mem_of_getElem? (i := 34) rfl))) (ty := (.array .byte)) (by decide)
                refine own_tp (.ref b253) 220 st253 ?_
                refine own_tp (.ref b253) 221 (fun _ q => XS.dup X253.here hx rfl (hb hby at_220) rfl rfl q) ?_
                refine own_tp (.int (1 : Int32)) 223 (fun _ q => XS.iload X253.here hx rfl (hb hby at_221) rfl q) ?_
                obtain ⟨_, _, ⟨T254, L254, k254, n254⟩, -, X254, ⟨Lc254, hQ254, l254, y254, z254⟩, st254⟩ := Jvm.LawKit.callS X253 hx (y := (⟨"com/example/leastwise/leastwise/core/AuthorizableTypeOfPinLaw", "full", "(I)[C"⟩ : MethodName)) hown (mvT hZ (hw _ (List.mem_of_getElem? (i := 81) rfl))) (mvT hZ (hw _ (List.mem_of_getElem? (i := 82) rfl))) (mvT hZ (hw _ (List.mem_of_getElem? (i := 6) rfl))) (mvT hZ (hw _ (List.mem_of_getElem? (i := 83) rfl))) (by decide) (backOf (W := 2) (rm14 l Z a0 hw [] h253 n0 Z253) hZ (hw _ (List.mem_of_getElem? (i := 83) rfl)) (hw _ (List.mem_of_getElem? (i := 6) rfl)) (by decide) (by decide)) (g := (mkF m 223 L_252 [(.int (1 : Int32)), (.ref b253), (.ref b253)])) rfl (by rw [hml]; rfl) (argsL := [(.int (1 : Int32))]) (rest := [(.ref b253), (.ref b253)]) (lenOf pd0_3 rfl) rfl (by show 2 * 0 + _ ≤ _; exact Nat.le_of_eq rfl) (hb hby at_223) (fun _ _ => ⟨rfl, e253, (by decide : 1 + 1 ≤ _), (by decide : 4 + 8 ≤ _)⟩)
                dsimp only [Pt.U, Pt.locs, Pt.cells, Pt.slots] at X254 l254 y254 z254 st254 hQ254
                subst l254 y254 z254
                obtain ⟨cb254, kc254, rfl, Nq254, Kp254, ge254, sz254, V254⟩ := hQ254
                have ne255 : b253 ≠ cb254 := Nat.ne_of_lt (Nat.lt_of_lt_of_le A253.lt sz254)
                have N254 := Fr.app N0 Nq254
                have O254 := Old.keep O253 Kp254 all0
                have Z254 : n0 ≤ T254.heap.size := Nat.le_trans Z253 Kp254.1
                have Wd254 := Wd253.keep Kp254 all0
                refine own_t1 (.ref cb254) 226 st254 ?_
                have f257 := (Safe.keep Kp254 all0 Wd253.chv G253)
                have hws : ∀ d ∈ StrChars.Road.words, d.before a0 Z = true := fun d hd => hw d ((by decide +kernel : ∀ d ∈ StrChars.Road.words, d ∈ tables_1) d hd)
                have hp256 : ∀ c ∈ ([(114 : Int32), (101 : Int32), (112 : Int32), (58 : Int32), (85 : Int32), (115 : Int32), (101 : Int32), (114 : Int32)] : List Int32), ¬ c < 0 ∧ ¬ (255 : Int32) < c := by
                  intro c hc
                  simp only [List.mem_cons, List.not_mem_nil, or_false] at hc
                  rcases hc with rfl | rfl | rfl | rfl | rfl | rfl | rfl | rfl
                  · exact (by decide)
                  · exact (by decide)
                  · exact (by decide)
                  · exact (by decide)
                  · exact (by decide)
                  · exact (by decide)
                  · exact (by decide)
                  · exact (by decide)
                have f258 := (A253.keep Kp254)
                have f259 := (Fvalue_253.keep Kp254 nin0)
                have f260 := (Fcoder_253.keep Kp254 nin0)
                obtain ⟨_, _, ⟨T261, L261, k261, n261⟩, -, X261, ⟨Lc261, hQ261, l261, y261, z261⟩, st261⟩ := X254.specialBack hx (y := (⟨"java/lang/String", "<init>", "([C)V"⟩ : MethodName)) rfl hown (mvT hZ (hw _ (List.mem_of_getElem? (i := 9) rfl))) (mvT hZ (hw _ (List.mem_of_getElem? (i := 10) rfl))) (mvT hZ (hw _ (List.mem_of_getElem? (i := 11) rfl))) (by decide) (StrChars.Road.backV (W := 1) hZ hws (kI := 4) (hw _ (List.mem_of_getElem? (i := 2) rfl)) (cs := ([(114 : Int32), (101 : Int32), (112 : Int32), (58 : Int32), (85 : Int32), (115 : Int32), (101 : Int32), (114 : Int32)] : List Int32)) (bs := ([(114 : Int32), (101 : Int32), (112 : Int32), (58 : Int32), (85 : Int32), (115 : Int32), (101 : Int32), (114 : Int32)] : List Int32).map (fun c => c.toInt8.toInt32)) (n := 8) ge253 Z254 f258 f259 f260 V254 (Sc.ext O254.2) P5 rfl rfl (by decide) (by decide) hp256 rfl (by decide) (by decide)) (g := (mkF m 226 L_252 [(.ref cb254), (.ref b253), (.ref b253)])) rfl (by rw [hml]; rfl) (Steps.refl _) (a := b253) (argsL := [(.ref cb254)]) (rest := [(.ref b253)]) (lenOf pd0_2 rfl) rfl (by show 2 * 0 + _ ≤ _; exact Nat.le_of_eq rfl) (hb hby at_226) (fun _ _ => ⟨rfl, rfl, (by decide : 2 + 1 ≤ _), (by decide : 12 + 8 ≤ _)⟩)
                dsimp only [Pt.U, Pt.locs, Pt.cells, Pt.slots] at X261 l261 y261 z261 st261 hQ261
                subst l261 y261 z261
                obtain ⟨rfl, Nq261, Kp261, A261, Cd261, t261, kb261, gt261, ht261, nt261, Vl261, V261⟩ := hQ261
                have N261 := Fr.app N254 Nq261
                have O261 := Old.keep O254 Kp261 (allS ge253 all0)
                have Z261 : n0 ≤ T261.heap.size := Nat.le_trans Z254 Kp261.1
                have Wd261 := Wd254.keep Kp261 (allS f257 all0)
                have Ts261 : own_St Z T261.heap b253 t261 kb261 ([(114 : Int32), (101 : Int32), (112 : Int32), (58 : Int32), (85 : Int32), (115 : Int32), (101 : Int32), (114 : Int32)] : List Int32) := ⟨A261, Vl261, Cd261, V261, hp256, by simp⟩
                refine own_csR [(.ref b253)] 229 st261 ?_
                let L_262 : Array Slot := #[.val (.int p0), .val (.int p1), .val (.int p2), .val (.int p3), .val (.int p4), .val (.int p5), .val (.int (1 : Int32)), .val (.int mm), .val (.int cc), .val (.ref b253), .unset, .unset]
                refine own_ls L_262 231 (fun _ q => XS.astore X261.here hx rfl (hb hby at_229) rfl rfl (l' := L_262) rfl q) ?_
                exact kj56 (.unset) (.unset) T261 _ s.vm T261.heap (.ref b253) (X261.more (by decide) (by decide)) N261 rfl Wd261 hown O261 Z261 rfl One.u One.u ⟨some _, Or.inr ⟨_, _, _, _, rfl, rfl, Ts261⟩, (fun _ => rfl)⟩
  ·
    refine own_tp (.int mm) 24 (fun _ q => XS.iload X0.here hx rfl (hb hby at_22) rfl q) ?_
    refine own_tp (.int (4 : Int32)) 25 (fun _ q => XS.iconst X0.here hx rfl (hb hby at_24) q) ?_
    by_cases c263 : mm = (4 : Int32)
    ·
      refine own_d2 28 (fun _ q => XS.icmpNo X0.here hx rfl (hb hby at_25) rfl (teq c263).2 q) ?_
      refine own_tp .null 29 (fun _ q => XS.aconstNull X0.here hx rfl (hb hby at_28) q) ?_
      let L_264 : Array Slot := #[.val (.int p0), .val (.int p1), .val (.int p2), .val (.int p3), .val (.int p4), .val (.int p5), .val (.int (2 : Int32)), .val (.int mm), .val (.int cc), .val .null, .unset, .unset]
      refine own_ls L_264 31 (fun _ q => XS.astore X0.here hx rfl (hb hby at_29) rfl rfl (l' := L_264) rfl q) ?_
      refine own_d0 231 (fun _ q => XS.goto X0.here hx rfl (pc0 := 31) (pc' := 231) rfl (hb hby at_31) (by decide) (by decide) q) ?_
      exact kj56 (.unset) (.unset) s₁ _ s.vm h0 .null (X0.more (by decide) (by decide)) N0 e0 Wd0 hown O0 Z0 rfl One.u One.u ⟨none, Or.inl ⟨rfl, rfl⟩, (fun q => by rcases q with q | q <;> (rw [c263] at q; exact absurd q (by decide)))⟩
    ·
      refine own_d2 34 (fun _ q => XS.icmpYes X0.here hx rfl (pc0 := 25) (pc' := 34) rfl (hb hby at_25) rfl (feq c263).2 (by decide) (by decide) q) ?_
      refine own_tp (.int mm) 36 (fun _ q => XS.iload X0.here hx rfl (hb hby at_34) rfl q) ?_
      refine own_tp (.int (5 : Int32)) 37 (fun _ q => XS.iconst X0.here hx rfl (hb hby at_36) q) ?_
      by_cases c265 : mm = (5 : Int32)
      ·
        refine own_d2 40 (fun _ q => XS.icmpNo X0.here hx rfl (hb hby at_37) rfl (teq c265).2 q) ?_
        refine own_tp (.int p4) 42 (fun _ q => XS.iload X0.here hx rfl (hb hby at_40) rfl q) ?_
        let L_266 : Array Slot := #[.val (.int p0), .val (.int p1), .val (.int p2), .val (.int p3), .val (.int p4), .val (.int p5), .val (.int (2 : Int32)), .val (.int mm), .val (.int cc), .unset, .unset, .unset]
        refine own_tp (.int (65536 : Int32)) 44 (fun _ q => X0.ldcInt hx hown (mvT hZ (hw _ (List.mem_of_getElem? (i := 88) rfl))) (g := (mkF m 42 L_266 [(.int p4)])) rfl (hb hby at_42) _ q) ?_
        refine own_t2 (.int (p4 &&& (65536 : Int32))) 45 (fun _ q => XS.iand X0.here hx rfl (hb hby at_44) rfl q) ?_
        by_cases c267 : (p4 &&& (65536 : Int32)) = (0 : Int32)
        ·
          refine own_d1 55 (fun _ q => XS.ifYes X0.here hx rfl (pc0 := 45) (pc' := 55) rfl (hb hby at_45) rfl ((if0 _ _).trans (teq c267).1) (by decide) (by decide) q) ?_
          obtain ⟨T268, h268, X268, e268, E268, A268, D268, -, st268⟩ := newO X0 hx hZ hown (hw _ (List.mem_of_getElem? (i := 1) rfl)) (hw _ (List.mem_of_getElem? (i := 2) rfl)) (hw _ (List.mem_of_getElem? (i := 3) rfl)) e0 (g := (mkF m 55 L_266 [])) rfl (hb hby at_55) (by decide) (by decide)
          obtain ⟨b268, g268⟩ : ∃ z, z = h0.size := ⟨_, rfl⟩
          rw [← g268] at A268 D268 st268
          have ge268 : n0 ≤ b268 := Nat.le_trans Z0 (Nat.le_of_eq g268.symm)
          have O268 := Old.ext O0 E268
          have Z268 : n0 ≤ h268.size := Nat.le_trans Z0 E268.1
          have Wd268 := Wd0.ext E268
          have G268 : Safe Z own_EL s.vm h268 b268 := Safe.ext E268 Wd0.chv (Safe.new (Nat.le_of_eq g268.symm))
          have Fcoder_268 : Fld Z h268 b268 "java/lang/String" "coder" "B" (.int (0 : Int32)) := D268 (Or.inr (hw _ (List.mem_of_getElem? (i := 32) rfl))) (ty := .byte) (by decide)
          have Fvalue_268 : Fld Z h268 b268 "java/lang/String" "value" "[B" .null := D268 (Or.inr (hw _ (List.mem_of_getElem? (i := 34) rfl))) (ty := (.array .byte)) (by decide)
          refine own_tp (.ref b268) 58 st268 ?_
          refine own_tp (.ref b268) 59 (fun _ q => XS.dup X268.here hx rfl (hb hby at_58) rfl rfl q) ?_
          refine own_tp (.int (3 : Int32)) 60 (fun _ q => XS.iconst X268.here hx rfl (hb hby at_59) q) ?_
          obtain ⟨T269, h269, k269, X269, e269, E269, A269, st269⟩ := newP X268 hx hZ (hw _ (List.mem_of_getElem? (i := 8) rfl)) e268 (g := (mkF m 60 L_266 [(.int (3 : Int32)), (.ref b268), (.ref b268)])) rfl (hb hby at_60) rfl (by decide) (cap := 3) (by decide) (by decide) (by decide) (by decide)
          obtain ⟨b269, g269⟩ : ∃ z, z = h268.size := ⟨_, rfl⟩
          rw [← g269] at A269 st269
          have V269 : Arv Z h269 b269 k269 .char (3 : Int32) [(.int (0 : Int32)), (.int (0 : Int32)), (.int (0 : Int32))] (.int (0 : Int32)) := (Arv.new A269 (by decide)).pad (pad_rep [] (.int (0 : Int32)) 3)
          have ge269 : n0 ≤ b269 := Nat.le_trans Z268 (Nat.le_of_eq g269.symm)
          have ne270 : b268 ≠ b269 := Nat.ne_of_lt (Nat.lt_of_lt_of_le A268.lt (Nat.le_of_eq g269.symm))
          have O269 := Old.ext O268 E269
          have Z269 : n0 ≤ h269.size := Nat.le_trans Z268 E269.1
          have Wd269 := Wd268.ext E269
          refine own_t1 (.ref b269) 62 st269 ?_
          refine own_tp (.ref b269) 63 (fun _ q => XS.dup X269.here hx rfl (hb hby at_62) rfl rfl q) ?_
          refine own_tp (.int (0 : Int32)) 64 (fun _ q => XS.iconst X269.here hx rfl (hb hby at_63) q) ?_
          refine own_tp (.int p4) 66 (fun _ q => XS.iload X269.here hx rfl (hb hby at_64) rfl q) ?_
          refine own_tp (.int (255 : Int32)) 69 (fun _ q => XS.sipush X269.here hx rfl (hb hby at_66) q) ?_
          refine own_t2 (.int (p4 &&& (255 : Int32))) 70 (fun _ q => XS.iand X269.here hx rfl (hb hby at_69) rfl q) ?_
          refine own_t1 (.int ((p4 &&& (255 : Int32)).toUInt32.toUInt16.toUInt32.toInt32)) 71 (fun _ q => XS.i2c X269.here hx rfl (hb hby at_70) rfl q) ?_
          obtain ⟨ca, eca, hca⟩ : ∃ z : Int32, ((p4 &&& (255 : Int32)).toUInt32.toUInt16.toUInt32.toInt32) = z ∧ (0 ≤ z.toInt ∧ z.toInt ≤ 255) := own_c255 p4
          rw [eca]
          obtain ⟨cl271, Ar271, q271, S271, Nn271, H271, G271⟩ := (id V269)
          have hin271 : ¬ ((0 : Int32) < 0 ∨ cl271.slots.size ≤ ((0 : Int32)).toNatClampNeg) := inb_of S271 ⟨by decide, by decide⟩
          obtain ⟨T272, h272, X272, e272, W272, st272⟩ := stC X269 hx hZ e269 Ar271 (j := (0 : Int32)) hin271 (g := (mkF m 71 L_266 [(.int ca), (.int (0 : Int32)), (.ref b269), (.ref b269), (.ref b268), (.ref b268)])) rfl rfl (hb hby at_71)
          have V272 := Arv.set Ar271 q271 S271 Nn271 H271 G271 (fits_nar_char _) W272 0 rfl (Nat.le_of_ble_eq_true rfl)
          have N272 := Fr.snoc X272 N0 ge269
          have O272 := Old.wr O269 W272 ge269
          have Z272 : n0 ≤ h272.size := Nat.le_trans Z269 (Nat.le_of_eq W272.size.symm)
          have Wd272 := Wd269.wr W272 (own_safeV hZ.alike V269 (by simp))
          have V272' : Arv Z h272 b269 k269 .char (3 : Int32) [(.int ca), (.int (0 : Int32)), (.int (0 : Int32))] (.int (0 : Int32)) := by have q := V272; first | (rw [own_narc (own_up hca)] at q; exact q) | (rw [own_i2c (own_up hca)] at q; exact q)
          refine own_cs [(.ref b269), (.ref b268), (.ref b268)] 72 st272 ?_
          refine own_tp (.ref b269) 73 (fun _ q => XS.dup X272.here hx rfl (hb hby at_72) rfl rfl q) ?_
          refine own_tp (.int (1 : Int32)) 74 (fun _ q => XS.iconst X272.here hx rfl (hb hby at_73) q) ?_
          refine own_tp (.int p5) 76 (fun _ q => XS.iload X272.here hx rfl (hb hby at_74) rfl q) ?_
          refine own_tp (.int (255 : Int32)) 79 (fun _ q => XS.sipush X272.here hx rfl (hb hby at_76) q) ?_
          refine own_t2 (.int (p5 &&& (255 : Int32))) 80 (fun _ q => XS.iand X272.here hx rfl (hb hby at_79) rfl q) ?_
          refine own_t1 (.int ((p5 &&& (255 : Int32)).toUInt32.toUInt16.toUInt32.toInt32)) 81 (fun _ q => XS.i2c X272.here hx rfl (hb hby at_80) rfl q) ?_
          obtain ⟨cb, ecb, hcb⟩ : ∃ z : Int32, ((p5 &&& (255 : Int32)).toUInt32.toUInt16.toUInt32.toInt32) = z ∧ (0 ≤ z.toInt ∧ z.toInt ≤ 255) := own_c255 p5
          rw [ecb]
          obtain ⟨cl273, Ar273, q273, S273, Nn273, H273, G273⟩ := (id V272')
          have hin273 : ¬ ((1 : Int32) < 0 ∨ cl273.slots.size ≤ ((1 : Int32)).toNatClampNeg) := inb_of S273 ⟨by decide, by decide⟩
          obtain ⟨T274, h274, X274, e274, W274, st274⟩ := stC X272 hx hZ e272 Ar273 (j := (1 : Int32)) hin273 (g := (mkF m 81 L_266 [(.int cb), (.int (1 : Int32)), (.ref b269), (.ref b269), (.ref b268), (.ref b268)])) rfl rfl (hb hby at_81)
          have V274 := Arv.set Ar273 q273 S273 Nn273 H273 G273 (fits_nar_char _) W274 1 rfl (Nat.le_of_ble_eq_true rfl)
          have N274 := Fr.snoc X274 N272 ge269
          have O274 := Old.wr O272 W274 ge269
          have Z274 : n0 ≤ h274.size := Nat.le_trans Z272 (Nat.le_of_eq W274.size.symm)
          have Wd274 := Wd272.wr W274 (own_safeV hZ.alike V272' (by simp))
          have V274' : Arv Z h274 b269 k269 .char (3 : Int32) [(.int ca), (.int cb), (.int (0 : Int32))] (.int (0 : Int32)) := by have q := V274; first | (rw [own_narc (own_up hcb)] at q; exact q) | (rw [own_i2c (own_up hcb)] at q; exact q)
          refine own_cs [(.ref b269), (.ref b268), (.ref b268)] 82 st274 ?_
          refine own_tp (.ref b269) 83 (fun _ q => XS.dup X274.here hx rfl (hb hby at_82) rfl rfl q) ?_
          refine own_tp (.int (2 : Int32)) 84 (fun _ q => XS.iconst X274.here hx rfl (hb hby at_83) q) ?_
          refine own_tp (.int cc) 86 (fun _ q => XS.iload X274.here hx rfl (hb hby at_84) rfl q) ?_
          obtain ⟨cl275, Ar275, q275, S275, Nn275, H275, G275⟩ := (id V274')
          have hin275 : ¬ ((2 : Int32) < 0 ∨ cl275.slots.size ≤ ((2 : Int32)).toNatClampNeg) := inb_of S275 ⟨by decide, by decide⟩
          obtain ⟨T276, h276, X276, e276, W276, st276⟩ := stC X274 hx hZ e274 Ar275 (j := (2 : Int32)) hin275 (g := (mkF m 86 L_266 [(.int cc), (.int (2 : Int32)), (.ref b269), (.ref b269), (.ref b268), (.ref b268)])) rfl rfl (hb hby at_86)
          have V276 := Arv.set Ar275 q275 S275 Nn275 H275 G275 (fits_nar_char _) W276 2 rfl (Nat.le_of_ble_eq_true rfl)
          have N276 := Fr.snoc X276 N274 ge269
          have O276 := Old.wr O274 W276 ge269
          have Z276 : n0 ≤ h276.size := Nat.le_trans Z274 (Nat.le_of_eq W276.size.symm)
          have Wd276 := Wd274.wr W276 (own_safeV hZ.alike V274' (by simp))
          have V276' : Arv Z h276 b269 k269 .char (3 : Int32) [(.int ca), (.int cb), (.int cc)] (.int (0 : Int32)) := by have q := V276; first | (rw [own_narc (own_up hcc)] at q; exact q) | (rw [own_i2c (own_up hcc)] at q; exact q)
          refine own_cs [(.ref b269), (.ref b268), (.ref b268)] 87 st276 ?_
          obtain ⟨Lz277, Xz277, Nz277⟩ : ∃ Lz, Stand p l e room_1 (s.setVm s.vm) m #[(.int p0), (.int p1), (.int p2), (.int p3), (.int p4), (.int p5)] below meth c T276 Lz 2 7 ∧ Fr n0 Lz := ⟨_, X276, N276⟩
          have f279 := (Safe.wr W276 (own_safeV hZ.alike V274' (by simp)) Wd274.chv (Safe.wr W274 (own_safeV hZ.alike V272' (by simp)) Wd272.chv (Safe.wr W272 (own_safeV hZ.alike V269 (by simp)) Wd269.chv (Safe.ext E269 Wd268.chv G268))))
          have hws : ∀ d ∈ StrChars.Road.words, d.before a0 Z = true := fun d hd => hw d ((by decide +kernel : ∀ d ∈ StrChars.Road.words, d ∈ tables_1) d hd)
          have hp278 : ∀ c ∈ ([ca, cb, cc] : List Int32), ¬ c < 0 ∧ ¬ (255 : Int32) < c := by
            intro c hc
            simp only [List.mem_cons, List.not_mem_nil, or_false] at hc
            rcases hc with rfl | rfl | rfl
            · exact own_ch hca
            · exact own_ch hcb
            · exact own_ch hcc
          have f280 := ((((A268.ext E269).wr W272).wr W274).wr W276)
          have f281 := ((((Fvalue_268.ext E269).other W272 (Or.inl ne270)).other W274 (Or.inl ne270)).other W276 (Or.inl ne270))
          have f282 := ((((Fcoder_268.ext E269).other W272 (Or.inl ne270)).other W274 (Or.inl ne270)).other W276 (Or.inl ne270))
          obtain ⟨_, _, ⟨T283, L283, k283, n283⟩, -, X283, ⟨Lc283, hQ283, l283, y283, z283⟩, st283⟩ := Xz277.specialBack hx (y := (⟨"java/lang/String", "<init>", "([C)V"⟩ : MethodName)) rfl hown (mvT hZ (hw _ (List.mem_of_getElem? (i := 9) rfl))) (mvT hZ (hw _ (List.mem_of_getElem? (i := 10) rfl))) (mvT hZ (hw _ (List.mem_of_getElem? (i := 11) rfl))) (by decide) (StrChars.Road.backV (W := 1) hZ hws (kI := 4) (hw _ (List.mem_of_getElem? (i := 2) rfl)) (cs := ([ca, cb, cc] : List Int32)) (bs := ([ca, cb, cc] : List Int32).map (fun c => c.toInt8.toInt32)) (n := 3) ge268 Z276 f280 f281 f282 V276' (Sc.ext O276.2) P5 rfl rfl (by decide) (by decide) hp278 rfl (by decide) (by decide)) (g := (mkF m 87 L_266 [(.ref b269), (.ref b268), (.ref b268)])) rfl (by rw [hml]; rfl) (Steps.refl _) (a := b268) (argsL := [(.ref b269)]) (rest := [(.ref b268)]) (lenOf pd0_2 rfl) rfl (by show 2 * 0 + _ ≤ _; exact Nat.le_of_eq rfl) (hb hby at_87) (fun _ _ => ⟨rfl, e276, (by decide : 2 + 1 ≤ _), (by decide : 7 + 3 ≤ _)⟩)
          dsimp only [Pt.U, Pt.locs, Pt.cells, Pt.slots] at X283 l283 y283 z283 st283 hQ283
          subst l283 y283 z283
          obtain ⟨rfl, Nq283, Kp283, A283, Cd283, t283, kb283, gt283, ht283, nt283, Vl283, V283⟩ := hQ283
          have N283 := Fr.app Nz277 Nq283
          have O283 := Old.keep O276 Kp283 (allS ge268 all0)
          have Z283 : n0 ≤ T283.heap.size := Nat.le_trans Z276 Kp283.1
          have Wd283 := Wd276.keep Kp283 (allS f279 all0)
          have Ts283 : own_St Z T283.heap b268 t283 kb283 ([ca, cb, cc] : List Int32) := ⟨A283, Vl283, Cd283, V283, hp278, by simp⟩
          refine own_csR [(.ref b268)] 90 st283 ?_
          let L_284 : Array Slot := #[.val (.int p0), .val (.int p1), .val (.int p2), .val (.int p3), .val (.int p4), .val (.int p5), .val (.int (2 : Int32)), .val (.int mm), .val (.int cc), .val (.ref b268), .unset, .unset]
          refine own_ls L_284 92 (fun _ q => XS.astore X283.here hx rfl (hb hby at_90) rfl rfl (l' := L_284) rfl q) ?_
          refine own_d0 231 (fun _ q => XS.goto X283.here hx rfl (pc0 := 92) (pc' := 231) rfl (hb hby at_92) (by decide) (by decide) q) ?_
          exact kj56 (.unset) (.unset) T283 _ s.vm T283.heap (.ref b268) (X283.more (by decide) (by decide)) N283 rfl Wd283 hown O283 Z283 rfl One.u One.u ⟨some _, Or.inr ⟨_, _, _, _, rfl, rfl, Ts283⟩, (fun q => by rcases q with q | q <;> (rw [c265] at q; exact absurd q (by decide)))⟩
        ·
          refine own_d1 48 (fun _ q => XS.ifNo X0.here hx rfl (hb hby at_45) rfl ((if0 _ _).trans (feq c267).1) q) ?_
          obtain ⟨b285, T285, h285, bb285, kk285, X285, e285, E285, Wd285, ho285, A285, Cd285, Vl285, V285, Ch285, Sf285, st285⟩ := own_ldc X0 hx Wd0 hown (hw _ (List.mem_of_getElem? (i := 91) rfl)) wS e0 (by simp [own_EL, x]) (vs := []) (z := (0 : Int32)) ⟨by decide, by decide⟩ (by decide) rfl (g := (mkF m 48 L_266 [])) rfl (hb hby at_48) (n := 0) (by decide) (by decide) (by decide) (by decide)
          have hZ285 : Z.Warmed39 (s.setVm T285.vm).vm := Wd285.hZ
          have hown285 : (s.setVm T285.vm).vm.findClass "com/example/leastwise/leastwise/core/AuthorizableTypeOfPinLaw" = some m.cls := ho285
          have O285 := Old.ext O0 E285
          have Z285 : n0 ≤ h285.size := Nat.le_trans Z0 E285.1
          have Tl285 : own_St Z h285 b285 bb285 kk285 ([] : List Int32) := ⟨A285, Vl285, Cd285, V285, by decide, by decide⟩
          refine own_tp (.ref b285) 50 st285 ?_
          let L_286 : Array Slot := #[.val (.int p0), .val (.int p1), .val (.int p2), .val (.int p3), .val (.int p4), .val (.int p5), .val (.int (2 : Int32)), .val (.int mm), .val (.int cc), .val (.ref b285), .unset, .unset]
          refine own_ls L_286 52 (fun _ q => XS.astore X285.here hx rfl (hb hby at_50) rfl rfl (l' := L_286) rfl q) ?_
          refine own_d0 231 (fun _ q => XS.goto X285.here hx rfl (pc0 := 52) (pc' := 231) rfl (hb hby at_52) (by decide) (by decide) q) ?_
          exact kj56 (.unset) (.unset) T285 _ T285.vm h285 (.ref b285) (X285.more (by decide) (by decide)) N0 e285 Wd285 hown285 O285 Z285 rfl One.u One.u ⟨some _, Or.inr ⟨_, _, _, _, rfl, rfl, Tl285⟩, (fun q => by rcases q with q | q <;> (rw [c265] at q; exact absurd q (by decide)))⟩
      ·
        refine own_d2 95 (fun _ q => XS.icmpYes X0.here hx rfl (pc0 := 37) (pc' := 95) rfl (hb hby at_37) rfl (feq c265).2 (by decide) (by decide) q) ?_
        refine own_tp (.int mm) 97 (fun _ q => XS.iload X0.here hx rfl (hb hby at_95) rfl q) ?_
        refine own_tp (.int (2 : Int32)) 98 (fun _ q => XS.iconst X0.here hx rfl (hb hby at_97) q) ?_
        by_cases c287 : mm = (2 : Int32)
        ·
          refine own_d2 101 (fun _ q => XS.icmpNo X0.here hx rfl (hb hby at_98) rfl (teq c287).2 q) ?_
          refine own_tp (.int (2 : Int32)) 103 (fun _ q => XS.iload X0.here hx rfl (hb hby at_101) rfl q) ?_
          let L_288 : Array Slot := #[.val (.int p0), .val (.int p1), .val (.int p2), .val (.int p3), .val (.int p4), .val (.int p5), .val (.int (2 : Int32)), .val (.int mm), .val (.int cc), .unset, .unset, .unset]
          obtain ⟨_, _, ⟨T289, L289, k289, n289⟩, -, X289, ⟨Lc289, hQ289, l289, y289, z289⟩, st289⟩ := Jvm.LawKit.callS X0 hx (y := (⟨"com/example/leastwise/leastwise/core/AuthorizableTypeOfPinLaw", "extended", "(I)[C"⟩ : MethodName)) hown (mvT hZ (hw _ (List.mem_of_getElem? (i := 78) rfl))) (mvT hZ (hw _ (List.mem_of_getElem? (i := 79) rfl))) (mvT hZ (hw _ (List.mem_of_getElem? (i := 6) rfl))) (mvT hZ (hw _ (List.mem_of_getElem? (i := 80) rfl))) (by decide) (backOf (W := 0) (rm19 l Z a0 hw [] h0 n0 Z0) hZ (hw _ (List.mem_of_getElem? (i := 80) rfl)) (hw _ (List.mem_of_getElem? (i := 6) rfl)) (by decide) (by decide)) (g := (mkF m 103 L_288 [(.int (2 : Int32))])) rfl (by rw [hml]; rfl) (argsL := [(.int (2 : Int32))]) (rest := []) (lenOf pd0_3 rfl) rfl (by show 2 * 0 + _ ≤ _; exact Nat.le_of_eq rfl) (hb hby at_103) (fun _ _ => ⟨rfl, e0, (by decide : 0 + 1 ≤ _), (by decide : 0 + 10 ≤ _)⟩)
          dsimp only [Pt.U, Pt.locs, Pt.cells, Pt.slots] at X289 l289 y289 z289 st289 hQ289
          subst l289 y289 z289
          obtain ⟨cb289, kc289, rfl, Nq289, Kp289, ge289, sz289, V289⟩ := hQ289
          have N289 := Fr.app N0 Nq289
          have O289 := Old.keep O0 Kp289 all0
          have Z289 : n0 ≤ T289.heap.size := Nat.le_trans Z0 Kp289.1
          have Wd289 := Wd0.keep Kp289 all0
          refine own_t1 (.ref cb289) 106 st289 ?_
          let L_290 : Array Slot := #[.val (.int p0), .val (.int p1), .val (.int p2), .val (.int p3), .val (.int p4), .val (.int p5), .val (.int (2 : Int32)), .val (.int mm), .val (.int cc), .unset, .val (.ref cb289), .unset]
          refine own_ls L_290 108 (fun _ q => XS.astore X289.here hx rfl (hb hby at_106) rfl rfl (l' := L_290) rfl q) ?_
          refine own_tp (.ref cb289) 110 (fun _ q => XS.aload X289.here hx rfl (hb hby at_108) rfl rfl q) ?_
          refine own_tp (.ref cb289) 112 (fun _ q => XS.aload X289.here hx rfl (hb hby at_110) rfl rfl q) ?_
          obtain ⟨cl291, Ar291, -, Sz291, Nn291, -, -⟩ := (id V289)
          refine own_t1 (.int (10 : Int32)) 113 (fun t q => X289.arraylength hx Ar291.1 (State.isArrayOf_alike hZ.alike Ar291.2.1) (g := (mkF m 112 L_290 [(.ref cb289), (.ref cb289)])) rfl rfl (hb hby at_112) _ (by rw [len_of Sz291 Nn291]; exact q)) ?_
          refine own_tp (.int (1 : Int32)) 114 (fun _ q => XS.iconst X289.here hx rfl (hb hby at_113) q) ?_
          refine own_t2 (.int (9 : Int32)) 115 (fun _ q => XS.isub X289.here hx rfl (hb hby at_114) rfl q) ?_
          refine own_tp (.int cc) 117 (fun _ q => XS.iload X289.here hx rfl (hb hby at_115) rfl q) ?_
          obtain ⟨cl292, Ar292, q292, S292, Nn292, H292, G292⟩ := (id V289)
          have hin292 : ¬ ((9 : Int32) < 0 ∨ cl292.slots.size ≤ ((9 : Int32)).toNatClampNeg) := inb_of S292 ⟨by decide, by decide⟩
          obtain ⟨T293, h293, X293, e293, W293, st293⟩ := stC X289 hx hZ rfl Ar292 (j := (9 : Int32)) hin292 (g := (mkF m 117 L_290 [(.int cc), (.int (9 : Int32)), (.ref cb289)])) rfl rfl (hb hby at_117)
          have V293 := Arv.set Ar292 q292 S292 Nn292 H292 G292 (fits_nar_char _) W293 9 rfl (Nat.le_of_ble_eq_true rfl)
          have N293 := Fr.snoc X293 N289 ge289
          have O293 := Old.wr O289 W293 ge289
          have Z293 : n0 ≤ h293.size := Nat.le_trans Z289 (Nat.le_of_eq W293.size.symm)
          have Wd293 := Wd289.wr W293 (own_safeV hZ.alike V289 (by simp))
          have V293' : Arv Z h293 cb289 kc289 .char (10 : Int32) [(.int (114 : Int32)), (.int (101 : Int32)), (.int (112 : Int32)), (.int (58 : Int32)), (.int (71 : Int32)), (.int (114 : Int32)), (.int (111 : Int32)), (.int (117 : Int32)), (.int (112 : Int32)), (.int cc)] (.int (0 : Int32)) := by have q := V293; first | (rw [own_narc (own_up hcc)] at q; exact q) | (rw [own_i2c (own_up hcc)] at q; exact q)
          refine own_cs [] 118 st293 ?_
          obtain ⟨T294, h294, X294, e294, E294, A294, D294, -, st294⟩ := newO X293 hx hZ hown (hw _ (List.mem_of_getElem? (i := 1) rfl)) (hw _ (List.mem_of_getElem? (i := 2) rfl)) (hw _ (List.mem_of_getElem? (i := 3) rfl)) e293 (g := (mkF m 118 L_290 [])) rfl (hb hby at_118) (by decide) (by decide)
          obtain ⟨b294, g294⟩ : ∃ z, z = h293.size := ⟨_, rfl⟩
          rw [← g294] at A294 D294 st294
          have ge294 : n0 ≤ b294 := Nat.le_trans Z293 (Nat.le_of_eq g294.symm)
          have ne295 : cb289 ≠ b294 := Nat.ne_of_lt (Nat.lt_of_lt_of_le V293'.lt (Nat.le_of_eq g294.symm))
          have O294 := Old.ext O293 E294
          have Z294 : n0 ≤ h294.size := Nat.le_trans Z293 E294.1
          have Wd294 := Wd293.ext E294
          have G294 : Safe Z own_EL s.vm h294 b294 := Safe.ext E294 Wd293.chv (Safe.new (Nat.le_of_eq g294.symm))
          have Fcoder_294 : Fld Z h294 b294 "java/lang/String" "coder" "B" (.int (0 : Int32)) := D294 (Or.inr (hw _ (List.mem_of_getElem? (i := 32) rfl))) (ty := .byte) (by decide)
          have Fvalue_294 : Fld Z h294 b294 "java/lang/String" "value" "[B" .null := D294 (Or.inr (hw _ (List.mem_of_getElem? (i := 34) rfl))) (ty := (.array .byte)) (by decide)
          refine own_tp (.ref b294) 121 st294 ?_
          refine own_tp (.ref b294) 122 (fun _ q => XS.dup X294.here hx rfl (hb hby at_121) rfl rfl q) ?_
          refine own_tp (.ref cb289) 124 (fun _ q => XS.aload X294.here hx rfl (hb hby at_122) rfl rfl q) ?_
          have hws : ∀ d ∈ StrChars.Road.words, d.before a0 Z = true := fun d hd => hw d ((by decide +kernel : ∀ d ∈ StrChars.Road.words, d ∈ tables_1) d hd)
          have f297 := (V293'.ext E294)
          have hp296 : ∀ c ∈ ([(114 : Int32), (101 : Int32), (112 : Int32), (58 : Int32), (71 : Int32), (114 : Int32), (111 : Int32), (117 : Int32), (112 : Int32), cc] : List Int32), ¬ c < 0 ∧ ¬ (255 : Int32) < c := by
            intro c hc
            simp only [List.mem_cons, List.not_mem_nil, or_false] at hc
            rcases hc with rfl | rfl | rfl | rfl | rfl | rfl | rfl | rfl | rfl | rfl
            · exact (by decide)
            · exact (by decide)
            · exact (by decide)
            · exact (by decide)
            · exact (by decide)
            · exact (by decide)
            · exact (by decide)
            · exact (by decide)
            · exact (by decide)
            · exact own_ch hcc
          obtain ⟨_, _, ⟨T298, L298, k298, n298⟩, -, X298, ⟨Lc298, hQ298, l298, y298, z298⟩, st298⟩ := X294.specialBack hx (y := (⟨"java/lang/String", "<init>", "([C)V"⟩ : MethodName)) rfl hown (mvT hZ (hw _ (List.mem_of_getElem? (i := 9) rfl))) (mvT hZ (hw _ (List.mem_of_getElem? (i := 10) rfl))) (mvT hZ (hw _ (List.mem_of_getElem? (i := 11) rfl))) (by decide) (StrChars.Road.backV (W := 1) hZ hws (kI := 4) (hw _ (List.mem_of_getElem? (i := 2) rfl)) (cs := ([(114 : Int32), (101 : Int32), (112 : Int32), (58 : Int32), (71 : Int32), (114 : Int32), (111 : Int32), (117 : Int32), (112 : Int32), cc] : List Int32)) (bs := ([(114 : Int32), (101 : Int32), (112 : Int32), (58 : Int32), (71 : Int32), (114 : Int32), (111 : Int32), (117 : Int32), (112 : Int32), cc] : List Int32).map (fun c => c.toInt8.toInt32)) (n := 10) ge294 Z294 A294 Fvalue_294 Fcoder_294 f297 (Sc.ext O294.2) P5 rfl rfl (by decide) (by decide) hp296 rfl (by decide) (by decide)) (g := (mkF m 124 L_290 [(.ref cb289), (.ref b294), (.ref b294)])) rfl (by rw [hml]; rfl) (Steps.refl _) (a := b294) (argsL := [(.ref cb289)]) (rest := [(.ref b294)]) (lenOf pd0_2 rfl) rfl (by show 2 * 0 + _ ≤ _; exact Nat.le_of_eq rfl) (hb hby at_124) (fun _ _ => ⟨rfl, e294, (by decide : 2 + 1 ≤ _), (by decide : 14 + 10 ≤ _)⟩)
          dsimp only [Pt.U, Pt.locs, Pt.cells, Pt.slots] at X298 l298 y298 z298 st298 hQ298
          subst l298 y298 z298
          obtain ⟨rfl, Nq298, Kp298, A298, Cd298, t298, kb298, gt298, ht298, nt298, Vl298, V298⟩ := hQ298
          have N298 := Fr.app N293 Nq298
          have O298 := Old.keep O294 Kp298 (allS ge294 all0)
          have Z298 : n0 ≤ T298.heap.size := Nat.le_trans Z294 Kp298.1
          have Wd298 := Wd294.keep Kp298 (allS G294 all0)
          have Ts298 : own_St Z T298.heap b294 t298 kb298 ([(114 : Int32), (101 : Int32), (112 : Int32), (58 : Int32), (71 : Int32), (114 : Int32), (111 : Int32), (117 : Int32), (112 : Int32), cc] : List Int32) := ⟨A298, Vl298, Cd298, V298, hp296, by simp⟩
          refine own_csR [(.ref b294)] 127 st298 ?_
          let L_299 : Array Slot := #[.val (.int p0), .val (.int p1), .val (.int p2), .val (.int p3), .val (.int p4), .val (.int p5), .val (.int (2 : Int32)), .val (.int mm), .val (.int cc), .val (.ref b294), .val (.ref cb289), .unset]
          refine own_ls L_299 129 (fun _ q => XS.astore X298.here hx rfl (hb hby at_127) rfl rfl (l' := L_299) rfl q) ?_
          refine own_d0 231 (fun _ q => XS.goto X298.here hx rfl (pc0 := 129) (pc' := 231) rfl (hb hby at_129) (by decide) (by decide) q) ?_
          exact kj56 (.val (.ref cb289)) (.unset) T298 _ s.vm T298.heap (.ref b294) (X298.more (by decide) (by decide)) N298 rfl Wd298 hown O298 Z298 rfl (One.val rfl) One.u ⟨some _, Or.inr ⟨_, _, _, _, rfl, rfl, Ts298⟩, (fun q => by rcases q with q | q <;> (rw [c287] at q; exact absurd q (by decide)))⟩
        ·
          refine own_d2 132 (fun _ q => XS.icmpYes X0.here hx rfl (pc0 := 98) (pc' := 132) rfl (hb hby at_98) rfl (feq c287).2 (by decide) (by decide) q) ?_
          refine own_tp (.int mm) 134 (fun _ q => XS.iload X0.here hx rfl (hb hby at_132) rfl q) ?_
          refine own_tp (.int (3 : Int32)) 135 (fun _ q => XS.iconst X0.here hx rfl (hb hby at_134) q) ?_
          by_cases c300 : mm = (3 : Int32)
          ·
            refine own_d2 138 (fun _ q => XS.icmpNo X0.here hx rfl (hb hby at_135) rfl (teq c300).2 q) ?_
            let L_301 : Array Slot := #[.val (.int p0), .val (.int p1), .val (.int p2), .val (.int p3), .val (.int p4), .val (.int p5), .val (.int (2 : Int32)), .val (.int mm), .val (.int cc), .unset, .unset, .unset]
            obtain ⟨T302, h302, X302, e302, E302, A302, D302, -, st302⟩ := newO X0 hx hZ hown (hw _ (List.mem_of_getElem? (i := 1) rfl)) (hw _ (List.mem_of_getElem? (i := 2) rfl)) (hw _ (List.mem_of_getElem? (i := 3) rfl)) e0 (g := (mkF m 138 L_301 [])) rfl (hb hby at_138) (by decide) (by decide)
            obtain ⟨b302, g302⟩ : ∃ z, z = h0.size := ⟨_, rfl⟩
            rw [← g302] at A302 D302 st302
            have ge302 : n0 ≤ b302 := Nat.le_trans Z0 (Nat.le_of_eq g302.symm)
            have O302 := Old.ext O0 E302
            have Z302 : n0 ≤ h302.size := Nat.le_trans Z0 E302.1
            have Wd302 := Wd0.ext E302
            have G302 : Safe Z own_EL s.vm h302 b302 := Safe.ext E302 Wd0.chv (Safe.new (Nat.le_of_eq g302.symm))
            have Fcoder_302 : Fld Z h302 b302 "java/lang/String" "coder" "B" (.int (0 : Int32)) := D302 (Or.inr (hw _ (List.mem_of_getElem? (i := 32) rfl))) (ty := .byte) (by decide)
            have Fvalue_302 : Fld Z h302 b302 "java/lang/String" "value" "[B" .null := D302 (Or.inr (hw _ (List.mem_of_getElem? (i := 34) rfl))) (ty := (.array .byte)) (by decide)
            refine own_tp (.ref b302) 141 st302 ?_
            refine own_tp (.ref b302) 142 (fun _ q => XS.dup X302.here hx rfl (hb hby at_141) rfl rfl q) ?_
            refine own_tp (.int (2 : Int32)) 144 (fun _ q => XS.iload X302.here hx rfl (hb hby at_142) rfl q) ?_
            refine own_tp (.int p2) 145 (fun _ q => XS.iloadN X302.here hx rfl (hb hby at_144) rfl q) ?_
            refine own_tp (.int (1 : Int32)) 146 (fun _ q => XS.iconst X302.here hx rfl (hb hby at_145) q) ?_
            refine own_t2 (.int (p2 &&& (1 : Int32))) 147 (fun _ q => XS.iand X302.here hx rfl (hb hby at_146) rfl q) ?_
            by_cases c303 : (p2 &&& (1 : Int32)) = (0 : Int32)
            ·
              refine own_d1 154 (fun _ q => XS.ifYes X302.here hx rfl (pc0 := 147) (pc' := 154) rfl (hb hby at_147) rfl ((if0 _ _).trans (teq c303).1) (by decide) (by decide) q) ?_
              refine own_tp (.int (0 : Int32)) 155 (fun _ q => XS.iconst X302.here hx rfl (hb hby at_154) q) ?_
              obtain ⟨_, _, ⟨T304, L304, k304, n304⟩, -, X304, ⟨Lc304, hQ304, l304, y304, z304⟩, st304⟩ := Jvm.LawKit.callS X302 hx (y := (⟨"com/example/leastwise/leastwise/core/AuthorizableTypeOfPinLaw", "truncated", "(IZ)[C"⟩ : MethodName)) hown (mvT hZ (hw _ (List.mem_of_getElem? (i := 4) rfl))) (mvT hZ (hw _ (List.mem_of_getElem? (i := 5) rfl))) (mvT hZ (hw _ (List.mem_of_getElem? (i := 6) rfl))) (mvT hZ (hw _ (List.mem_of_getElem? (i := 7) rfl))) (by decide) (backOf (W := 2) (rm21 l Z a0 hw [] h302 n0 Z302) hZ (hw _ (List.mem_of_getElem? (i := 7) rfl)) (hw _ (List.mem_of_getElem? (i := 6) rfl)) (by decide) (by decide)) (g := (mkF m 155 L_301 [(.int (0 : Int32)), (.int (2 : Int32)), (.ref b302), (.ref b302)])) rfl (by rw [hml]; rfl) (argsL := [(.int (2 : Int32)), (.int (0 : Int32))]) (rest := [(.ref b302), (.ref b302)]) (lenOf pd0_4 rfl) rfl (by show 2 * 0 + _ ≤ _; exact Nat.le_of_eq rfl) (hb hby at_155) (fun _ _ => ⟨rfl, e302, (by decide : 1 + 1 ≤ _), (by decide : 4 + 8 ≤ _)⟩)
              dsimp only [Pt.U, Pt.locs, Pt.cells, Pt.slots] at X304 l304 y304 z304 st304 hQ304
              subst l304 y304 z304
              obtain ⟨cb304, kc304, rfl, Nq304, Kp304, ge304, sz304, V304⟩ := hQ304
              have ne305 : b302 ≠ cb304 := Nat.ne_of_lt (Nat.lt_of_lt_of_le A302.lt sz304)
              have N304 := Fr.app N0 Nq304
              have O304 := Old.keep O302 Kp304 all0
              have Z304 : n0 ≤ T304.heap.size := Nat.le_trans Z302 Kp304.1
              have Wd304 := Wd302.keep Kp304 all0
              refine own_t2 (.ref cb304) 158 st304 ?_
              have f307 := (Safe.keep Kp304 all0 Wd302.chv G302)
              have hws : ∀ d ∈ StrChars.Road.words, d.before a0 Z = true := fun d hd => hw d ((by decide +kernel : ∀ d ∈ StrChars.Road.words, d ∈ tables_1) d hd)
              have hp306 : ∀ c ∈ ([(114 : Int32), (101 : Int32), (112 : Int32), (58 : Int32), (71 : Int32), (114 : Int32), (111 : Int32), (117 : Int32)] : List Int32), ¬ c < 0 ∧ ¬ (255 : Int32) < c := by
                intro c hc
                simp only [List.mem_cons, List.not_mem_nil, or_false] at hc
                rcases hc with rfl | rfl | rfl | rfl | rfl | rfl | rfl | rfl
                · exact (by decide)
                · exact (by decide)
                · exact (by decide)
                · exact (by decide)
                · exact (by decide)
                · exact (by decide)
                · exact (by decide)
                · exact (by decide)
              have f308 := (A302.keep Kp304)
              have f309 := (Fvalue_302.keep Kp304 nin0)
              have f310 := (Fcoder_302.keep Kp304 nin0)
              obtain ⟨_, _, ⟨T311, L311, k311, n311⟩, -, X311, ⟨Lc311, hQ311, l311, y311, z311⟩, st311⟩ := X304.specialBack hx (y := (⟨"java/lang/String", "<init>", "([C)V"⟩ : MethodName)) rfl hown (mvT hZ (hw _ (List.mem_of_getElem? (i := 9) rfl))) (mvT hZ (hw _ (List.mem_of_getElem? (i := 10) rfl))) (mvT hZ (hw _ (List.mem_of_getElem? (i := 11) rfl))) (by decide) (StrChars.Road.backV (W := 1) hZ hws (kI := 4) (hw _ (List.mem_of_getElem? (i := 2) rfl)) (cs := ([(114 : Int32), (101 : Int32), (112 : Int32), (58 : Int32), (71 : Int32), (114 : Int32), (111 : Int32), (117 : Int32)] : List Int32)) (bs := ([(114 : Int32), (101 : Int32), (112 : Int32), (58 : Int32), (71 : Int32), (114 : Int32), (111 : Int32), (117 : Int32)] : List Int32).map (fun c => c.toInt8.toInt32)) (n := 8) ge302 Z304 f308 f309 f310 V304 (Sc.ext O304.2) P5 rfl rfl (by decide) (by decide) hp306 rfl (by decide) (by decide)) (g := (mkF m 158 L_301 [(.ref cb304), (.ref b302), (.ref b302)])) rfl (by rw [hml]; rfl) (Steps.refl _) (a := b302) (argsL := [(.ref cb304)]) (rest := [(.ref b302)]) (lenOf pd0_2 rfl) rfl (by show 2 * 0 + _ ≤ _; exact Nat.le_of_eq rfl) (hb hby at_158) (fun _ _ => ⟨rfl, rfl, (by decide : 2 + 1 ≤ _), (by decide : 12 + 8 ≤ _)⟩)
              dsimp only [Pt.U, Pt.locs, Pt.cells, Pt.slots] at X311 l311 y311 z311 st311 hQ311
              subst l311 y311 z311
              obtain ⟨rfl, Nq311, Kp311, A311, Cd311, t311, kb311, gt311, ht311, nt311, Vl311, V311⟩ := hQ311
              have N311 := Fr.app N304 Nq311
              have O311 := Old.keep O304 Kp311 (allS ge302 all0)
              have Z311 : n0 ≤ T311.heap.size := Nat.le_trans Z304 Kp311.1
              have Wd311 := Wd304.keep Kp311 (allS f307 all0)
              have Ts311 : own_St Z T311.heap b302 t311 kb311 ([(114 : Int32), (101 : Int32), (112 : Int32), (58 : Int32), (71 : Int32), (114 : Int32), (111 : Int32), (117 : Int32)] : List Int32) := ⟨A311, Vl311, Cd311, V311, hp306, by simp⟩
              refine own_csR [(.ref b302)] 161 st311 ?_
              let L_312 : Array Slot := #[.val (.int p0), .val (.int p1), .val (.int p2), .val (.int p3), .val (.int p4), .val (.int p5), .val (.int (2 : Int32)), .val (.int mm), .val (.int cc), .val (.ref b302), .unset, .unset]
              refine own_ls L_312 163 (fun _ q => XS.astore X311.here hx rfl (hb hby at_161) rfl rfl (l' := L_312) rfl q) ?_
              refine own_d0 231 (fun _ q => XS.goto X311.here hx rfl (pc0 := 163) (pc' := 231) rfl (hb hby at_163) (by decide) (by decide) q) ?_
              exact kj56 (.unset) (.unset) T311 _ s.vm T311.heap (.ref b302) (X311.more (by decide) (by decide)) N311 rfl Wd311 hown O311 Z311 rfl One.u One.u ⟨some _, Or.inr ⟨_, _, _, _, rfl, rfl, Ts311⟩, (fun q => by rcases q with q | q <;> (rw [c300] at q; exact absurd q (by decide)))⟩
            ·
              refine own_d1 150 (fun _ q => XS.ifNo X302.here hx rfl (hb hby at_147) rfl ((if0 _ _).trans (feq c303).1) q) ?_
              refine own_tp (.int (1 : Int32)) 151 (fun _ q => XS.iconst X302.here hx rfl (hb hby at_150) q) ?_
              refine own_d0 155 (fun _ q => XS.goto X302.here hx rfl (pc0 := 151) (pc' := 155) rfl (hb hby at_151) (by decide) (by decide) q) ?_
              obtain ⟨_, _, ⟨T313, L313, k313, n313⟩, -, X313, ⟨Lc313, hQ313, l313, y313, z313⟩, st313⟩ := Jvm.LawKit.callS X302 hx (y := (⟨"com/example/leastwise/leastwise/core/AuthorizableTypeOfPinLaw", "truncated", "(IZ)[C"⟩ : MethodName)) hown (mvT hZ (hw _ (List.mem_of_getElem? (i := 4) rfl))) (mvT hZ (hw _ (List.mem_of_getElem? (i := 5) rfl))) (mvT hZ (hw _ (List.mem_of_getElem? (i := 6) rfl))) (mvT hZ (hw _ (List.mem_of_getElem? (i := 7) rfl))) (by decide) (backOf (W := 2) (rm20 l Z a0 hw [] h302 n0 Z302) hZ (hw _ (List.mem_of_getElem? (i := 7) rfl)) (hw _ (List.mem_of_getElem? (i := 6) rfl)) (by decide) (by decide)) (g := (mkF m 155 L_301 [(.int (1 : Int32)), (.int (2 : Int32)), (.ref b302), (.ref b302)])) rfl (by rw [hml]; rfl) (argsL := [(.int (2 : Int32)), (.int (1 : Int32))]) (rest := [(.ref b302), (.ref b302)]) (lenOf pd0_4 rfl) rfl (by show 2 * 0 + _ ≤ _; exact Nat.le_of_eq rfl) (hb hby at_155) (fun _ _ => ⟨rfl, e302, (by decide : 1 + 1 ≤ _), (by decide : 4 + 8 ≤ _)⟩)
              dsimp only [Pt.U, Pt.locs, Pt.cells, Pt.slots] at X313 l313 y313 z313 st313 hQ313
              subst l313 y313 z313
              obtain ⟨cb313, kc313, rfl, Nq313, Kp313, ge313, sz313, V313⟩ := hQ313
              have ne314 : b302 ≠ cb313 := Nat.ne_of_lt (Nat.lt_of_lt_of_le A302.lt sz313)
              have N313 := Fr.app N0 Nq313
              have O313 := Old.keep O302 Kp313 all0
              have Z313 : n0 ≤ T313.heap.size := Nat.le_trans Z302 Kp313.1
              have Wd313 := Wd302.keep Kp313 all0
              refine own_t2 (.ref cb313) 158 st313 ?_
              have f316 := (Safe.keep Kp313 all0 Wd302.chv G302)
              have hws : ∀ d ∈ StrChars.Road.words, d.before a0 Z = true := fun d hd => hw d ((by decide +kernel : ∀ d ∈ StrChars.Road.words, d ∈ tables_1) d hd)
              have hp315 : ∀ c ∈ ([(101 : Int32), (112 : Int32), (58 : Int32), (71 : Int32), (114 : Int32), (111 : Int32), (117 : Int32), (112 : Int32)] : List Int32), ¬ c < 0 ∧ ¬ (255 : Int32) < c := by
                intro c hc
                simp only [List.mem_cons, List.not_mem_nil, or_false] at hc
                rcases hc with rfl | rfl | rfl | rfl | rfl | rfl | rfl | rfl
                · exact (by decide)
                · exact (by decide)
                · exact (by decide)
                · exact (by decide)
                · exact (by decide)
                · exact (by decide)
                · exact (by decide)
                · exact (by decide)
              have f317 := (A302.keep Kp313)
              have f318 := (Fvalue_302.keep Kp313 nin0)
              have f319 := (Fcoder_302.keep Kp313 nin0)
              obtain ⟨_, _, ⟨T320, L320, k320, n320⟩, -, X320, ⟨Lc320, hQ320, l320, y320, z320⟩, st320⟩ := X313.specialBack hx (y := (⟨"java/lang/String", "<init>", "([C)V"⟩ : MethodName)) rfl hown (mvT hZ (hw _ (List.mem_of_getElem? (i := 9) rfl))) (mvT hZ (hw _ (List.mem_of_getElem? (i := 10) rfl))) (mvT hZ (hw _ (List.mem_of_getElem? (i := 11) rfl))) (by decide) (StrChars.Road.backV (W := 1) hZ hws (kI := 4) (hw _ (List.mem_of_getElem? (i := 2) rfl)) (cs := ([(101 : Int32), (112 : Int32), (58 : Int32), (71 : Int32), (114 : Int32), (111 : Int32), (117 : Int32), (112 : Int32)] : List Int32)) (bs := ([(101 : Int32), (112 : Int32), (58 : Int32), (71 : Int32), (114 : Int32), (111 : Int32), (117 : Int32), (112 : Int32)] : List Int32).map (fun c => c.toInt8.toInt32)) (n := 8) ge302 Z313 f317 f318 f319 V313 (Sc.ext O313.2) P5 rfl rfl (by decide) (by decide) hp315 rfl (by decide) (by decide)) (g := (mkF m 158 L_301 [(.ref cb313), (.ref b302), (.ref b302)])) rfl (by rw [hml]; rfl) (Steps.refl _) (a := b302) (argsL := [(.ref cb313)]) (rest := [(.ref b302)]) (lenOf pd0_2 rfl) rfl (by show 2 * 0 + _ ≤ _; exact Nat.le_of_eq rfl) (hb hby at_158) (fun _ _ => ⟨rfl, rfl, (by decide : 2 + 1 ≤ _), (by decide : 12 + 8 ≤ _)⟩)
              dsimp only [Pt.U, Pt.locs, Pt.cells, Pt.slots] at X320 l320 y320 z320 st320 hQ320
              subst l320 y320 z320
              obtain ⟨rfl, Nq320, Kp320, A320, Cd320, t320, kb320, gt320, ht320, nt320, Vl320, V320⟩ := hQ320
              have N320 := Fr.app N313 Nq320
              have O320 := Old.keep O313 Kp320 (allS ge302 all0)
              have Z320 : n0 ≤ T320.heap.size := Nat.le_trans Z313 Kp320.1
              have Wd320 := Wd313.keep Kp320 (allS f316 all0)
              have Ts320 : own_St Z T320.heap b302 t320 kb320 ([(101 : Int32), (112 : Int32), (58 : Int32), (71 : Int32), (114 : Int32), (111 : Int32), (117 : Int32), (112 : Int32)] : List Int32) := ⟨A320, Vl320, Cd320, V320, hp315, by simp⟩
              refine own_csR [(.ref b302)] 161 st320 ?_
              let L_321 : Array Slot := #[.val (.int p0), .val (.int p1), .val (.int p2), .val (.int p3), .val (.int p4), .val (.int p5), .val (.int (2 : Int32)), .val (.int mm), .val (.int cc), .val (.ref b302), .unset, .unset]
              refine own_ls L_321 163 (fun _ q => XS.astore X320.here hx rfl (hb hby at_161) rfl rfl (l' := L_321) rfl q) ?_
              refine own_d0 231 (fun _ q => XS.goto X320.here hx rfl (pc0 := 163) (pc' := 231) rfl (hb hby at_163) (by decide) (by decide) q) ?_
              exact kj56 (.unset) (.unset) T320 _ s.vm T320.heap (.ref b302) (X320.more (by decide) (by decide)) N320 rfl Wd320 hown O320 Z320 rfl One.u One.u ⟨some _, Or.inr ⟨_, _, _, _, rfl, rfl, Ts320⟩, (fun q => by rcases q with q | q <;> (rw [c300] at q; exact absurd q (by decide)))⟩
          ·
            refine own_d2 166 (fun _ q => XS.icmpYes X0.here hx rfl (pc0 := 135) (pc' := 166) rfl (hb hby at_135) rfl (feq c300).2 (by decide) (by decide) q) ?_
            refine own_tp (.int mm) 168 (fun _ q => XS.iload X0.here hx rfl (hb hby at_166) rfl q) ?_
            refine own_tp (.int (1 : Int32)) 169 (fun _ q => XS.iconst X0.here hx rfl (hb hby at_168) q) ?_
            by_cases c322 : mm = (1 : Int32)
            ·
              refine own_d2 179 (fun _ q => XS.icmpYes X0.here hx rfl (pc0 := 169) (pc' := 179) rfl (hb hby at_169) rfl (teq c322).1 (by decide) (by decide) q) ?_
              refine own_tp (.int (2 : Int32)) 181 (fun _ q => XS.iload X0.here hx rfl (hb hby at_179) rfl q) ?_
              let L_323 : Array Slot := #[.val (.int p0), .val (.int p1), .val (.int p2), .val (.int p3), .val (.int p4), .val (.int p5), .val (.int (2 : Int32)), .val (.int mm), .val (.int cc), .unset, .unset, .unset]
              obtain ⟨_, _, ⟨T324, L324, k324, n324⟩, -, X324, ⟨Lc324, hQ324, l324, y324, z324⟩, st324⟩ := Jvm.LawKit.callS X0 hx (y := (⟨"com/example/leastwise/leastwise/core/AuthorizableTypeOfPinLaw", "full", "(I)[C"⟩ : MethodName)) hown (mvT hZ (hw _ (List.mem_of_getElem? (i := 81) rfl))) (mvT hZ (hw _ (List.mem_of_getElem? (i := 82) rfl))) (mvT hZ (hw _ (List.mem_of_getElem? (i := 6) rfl))) (mvT hZ (hw _ (List.mem_of_getElem? (i := 83) rfl))) (by decide) (backOf (W := 0) (rm18 l Z a0 hw [] h0 n0 Z0) hZ (hw _ (List.mem_of_getElem? (i := 83) rfl)) (hw _ (List.mem_of_getElem? (i := 6) rfl)) (by decide) (by decide)) (g := (mkF m 181 L_323 [(.int (2 : Int32))])) rfl (by rw [hml]; rfl) (argsL := [(.int (2 : Int32))]) (rest := []) (lenOf pd0_3 rfl) rfl (by show 2 * 0 + _ ≤ _; exact Nat.le_of_eq rfl) (hb hby at_181) (fun _ _ => ⟨rfl, e0, (by decide : 0 + 1 ≤ _), (by decide : 0 + 9 ≤ _)⟩)
              dsimp only [Pt.U, Pt.locs, Pt.cells, Pt.slots] at X324 l324 y324 z324 st324 hQ324
              subst l324 y324 z324
              obtain ⟨cb324, kc324, rfl, Nq324, Kp324, ge324, sz324, V324⟩ := hQ324
              have N324 := Fr.app N0 Nq324
              have O324 := Old.keep O0 Kp324 all0
              have Z324 : n0 ≤ T324.heap.size := Nat.le_trans Z0 Kp324.1
              have Wd324 := Wd0.keep Kp324 all0
              refine own_t1 (.ref cb324) 184 st324 ?_
              let L_325 : Array Slot := #[.val (.int p0), .val (.int p1), .val (.int p2), .val (.int p3), .val (.int p4), .val (.int p5), .val (.int (2 : Int32)), .val (.int mm), .val (.int cc), .unset, .val (.ref cb324), .unset]
              refine own_ls L_325 186 (fun _ q => XS.astore X324.here hx rfl (hb hby at_184) rfl rfl (l' := L_325) rfl q) ?_
              refine own_tp (.int p2) 187 (fun _ q => XS.iloadN X324.here hx rfl (hb hby at_186) rfl q) ?_
              refine own_tp (.int (2147483647 : Int32)) 189 (fun _ q => X324.ldcInt hx hown (mvT hZ (hw _ (List.mem_of_getElem? (i := 0) rfl))) (g := (mkF m 187 L_325 [(.int p2)])) rfl (hb hby at_187) _ q) ?_
              refine own_t2 (.int (p2 &&& (2147483647 : Int32))) 190 (fun _ q => XS.iand X324.here hx rfl (hb hby at_189) rfl q) ?_
              refine own_tp (.ref cb324) 192 (fun _ q => XS.aload X324.here hx rfl (hb hby at_190) rfl rfl q) ?_
              obtain ⟨cl326, Ar326, -, Sz326, Nn326, -, -⟩ := (id V324)
              refine own_t1 (.int (9 : Int32)) 193 (fun t q => X324.arraylength hx Ar326.1 (State.isArrayOf_alike hZ.alike Ar326.2.1) (g := (mkF m 192 L_325 [(.ref cb324), (.int (p2 &&& (2147483647 : Int32)))])) rfl rfl (hb hby at_192) _ (by rw [len_of Sz326 Nn326]; exact q)) ?_
              refine own_t2 (.int ((p2 &&& (2147483647 : Int32)) % (9 : Int32))) 194 (fun _ q => iremM (g := (mkF m 193 L_325 [(.int (9 : Int32)), (.int (p2 &&& (2147483647 : Int32)))])) X324 hx rfl (hb hby at_193) rfl (by decide) q) ?_
              obtain ⟨pp, epp, hpp⟩ := own_pos p2 (9 : Int32) 9 rfl (by decide)
              rw [epp]
              let L_327 : Array Slot := #[.val (.int p0), .val (.int p1), .val (.int p2), .val (.int p3), .val (.int p4), .val (.int p5), .val (.int (2 : Int32)), .val (.int mm), .val (.int cc), .unset, .val (.ref cb324), .val (.int pp)]
              refine own_ls L_327 196 (fun _ q => XS.istore X324.here hx rfl (hb hby at_194) rfl (l' := L_327) rfl q) ?_
              refine own_tp (.ref cb324) 198 (fun _ q => XS.aload X324.here hx rfl (hb hby at_196) rfl rfl q) ?_
              refine own_tp (.int pp) 200 (fun _ q => XS.iload X324.here hx rfl (hb hby at_198) rfl q) ?_
              refine own_tp (.int cc) 202 (fun _ q => XS.iload X324.here hx rfl (hb hby at_200) rfl q) ?_
              obtain ⟨cl328, Ar328, q328, S328, Nn328, H328, G328⟩ := (id V324)
              have hin328 : ¬ (pp < 0 ∨ cl328.slots.size ≤ (pp).toNatClampNeg) := inb_of S328 (own_inb (n := (9 : Int32)) rfl hpp)
              obtain ⟨T329, h329, X329, e329, W329, st329⟩ := stC X324 hx hZ rfl Ar328 (j := pp) hin328 (g := (mkF m 202 L_327 [(.int cc), (.int pp), (.ref cb324)])) rfl rfl (hb hby at_202)
              have V329 := Arv.set Ar328 q328 S328 Nn328 H328 G328 (fits_nar_char _) W329 pp.toNatClampNeg rfl (own_pn (m := 9) hpp)
              have N329 := Fr.snoc X329 N324 ge324
              have O329 := Old.wr O324 W329 ge324
              have Z329 : n0 ≤ h329.size := Nat.le_trans Z324 (Nat.le_of_eq W329.size.symm)
              have Wd329 := Wd324.wr W329 (own_safeV hZ.alike V324 (by simp))
              have V329' : Arv Z h329 cb324 kc324 .char (9 : Int32) (([(.int (114 : Int32)), (.int (101 : Int32)), (.int (112 : Int32)), (.int (58 : Int32)), (.int (71 : Int32)), (.int (114 : Int32)), (.int (111 : Int32)), (.int (117 : Int32)), (.int (112 : Int32))] : List Value).set pp.toNatClampNeg (.int cc)) (.int (0 : Int32)) := by have q := V329; first | (rw [own_narc (own_up hcc)] at q; exact q) | (rw [own_i2c (own_up hcc)] at q; exact q)
              refine own_cs [] 203 st329 ?_
              obtain ⟨T330, h330, X330, e330, E330, A330, D330, -, st330⟩ := newO X329 hx hZ hown (hw _ (List.mem_of_getElem? (i := 1) rfl)) (hw _ (List.mem_of_getElem? (i := 2) rfl)) (hw _ (List.mem_of_getElem? (i := 3) rfl)) e329 (g := (mkF m 203 L_327 [])) rfl (hb hby at_203) (by decide) (by decide)
              obtain ⟨b330, g330⟩ : ∃ z, z = h329.size := ⟨_, rfl⟩
              rw [← g330] at A330 D330 st330
              have ge330 : n0 ≤ b330 := Nat.le_trans Z329 (Nat.le_of_eq g330.symm)
              have ne331 : cb324 ≠ b330 := Nat.ne_of_lt (Nat.lt_of_lt_of_le V329'.lt (Nat.le_of_eq g330.symm))
              have O330 := Old.ext O329 E330
              have Z330 : n0 ≤ h330.size := Nat.le_trans Z329 E330.1
              have Wd330 := Wd329.ext E330
              have G330 : Safe Z own_EL s.vm h330 b330 := Safe.ext E330 Wd329.chv (Safe.new (Nat.le_of_eq g330.symm))
              have Fcoder_330 : Fld Z h330 b330 "java/lang/String" "coder" "B" (.int (0 : Int32)) := D330 (Or.inr (hw _ (List.mem_of_getElem? (i := 32) rfl))) (ty := .byte) (by decide)
              have Fvalue_330 : Fld Z h330 b330 "java/lang/String" "value" "[B" .null := D330 (Or.inr (hw _ (List.mem_of_getElem? (i := 34) rfl))) (ty := (.array .byte)) (by decide)
              refine own_tp (.ref b330) 206 st330 ?_
              refine own_tp (.ref b330) 207 (fun _ q => XS.dup X330.here hx rfl (hb hby at_206) rfl rfl q) ?_
              refine own_tp (.ref cb324) 209 (fun _ q => XS.aload X330.here hx rfl (hb hby at_207) rfl rfl q) ?_
              have hws : ∀ d ∈ StrChars.Road.words, d.before a0 Z = true := fun d hd => hw d ((by decide +kernel : ∀ d ∈ StrChars.Road.words, d ∈ tables_1) d hd)
              have hp332 : ∀ c ∈ (([(114 : Int32), (101 : Int32), (112 : Int32), (58 : Int32), (71 : Int32), (114 : Int32), (111 : Int32), (117 : Int32), (112 : Int32)] : List Int32).set pp.toNatClampNeg cc), ¬ c < 0 ∧ ¬ (255 : Int32) < c := own_setch (by decide) (own_ch hcc)
              have f333 := (V329'.ext E330)
              have Vs332 : Arv Z h330 cb324 kc324 .char (9 : Int32) ((([(114 : Int32), (101 : Int32), (112 : Int32), (58 : Int32), (71 : Int32), (114 : Int32), (111 : Int32), (117 : Int32), (112 : Int32)] : List Int32).set pp.toNatClampNeg cc).map Value.int) (.int (0 : Int32)) := by rw [List.map_set]; exact f333
              obtain ⟨_, _, ⟨T334, L334, k334, n334⟩, -, X334, ⟨Lc334, hQ334, l334, y334, z334⟩, st334⟩ := X330.specialBack hx (y := (⟨"java/lang/String", "<init>", "([C)V"⟩ : MethodName)) rfl hown (mvT hZ (hw _ (List.mem_of_getElem? (i := 9) rfl))) (mvT hZ (hw _ (List.mem_of_getElem? (i := 10) rfl))) (mvT hZ (hw _ (List.mem_of_getElem? (i := 11) rfl))) (by decide) (StrChars.Road.backV (W := 1) hZ hws (kI := 4) (hw _ (List.mem_of_getElem? (i := 2) rfl)) (cs := (([(114 : Int32), (101 : Int32), (112 : Int32), (58 : Int32), (71 : Int32), (114 : Int32), (111 : Int32), (117 : Int32), (112 : Int32)] : List Int32).set pp.toNatClampNeg cc)) (bs := (([(114 : Int32), (101 : Int32), (112 : Int32), (58 : Int32), (71 : Int32), (114 : Int32), (111 : Int32), (117 : Int32), (112 : Int32)] : List Int32).set pp.toNatClampNeg cc).map (fun c => c.toInt8.toInt32)) (n := 9) ge330 Z330 A330 Fvalue_330 Fcoder_330 Vs332 (Sc.ext O330.2) P5 (by simp) rfl (by decide) (by decide) hp332 rfl (by decide) (by decide)) (g := (mkF m 209 L_327 [(.ref cb324), (.ref b330), (.ref b330)])) rfl (by rw [hml]; rfl) (Steps.refl _) (a := b330) (argsL := [(.ref cb324)]) (rest := [(.ref b330)]) (lenOf pd0_2 rfl) rfl (by show 2 * 0 + _ ≤ _; exact Nat.le_of_eq rfl) (hb hby at_209) (fun _ _ => ⟨rfl, e330, (by decide : 2 + 1 ≤ _), (by decide : 13 + 9 ≤ _)⟩)
              dsimp only [Pt.U, Pt.locs, Pt.cells, Pt.slots] at X334 l334 y334 z334 st334 hQ334
              subst l334 y334 z334
              obtain ⟨rfl, Nq334, Kp334, A334, Cd334, t334, kb334, gt334, ht334, nt334, Vl334, V334⟩ := hQ334
              have N334 := Fr.app N329 Nq334
              have O334 := Old.keep O330 Kp334 (allS ge330 all0)
              have Z334 : n0 ≤ T334.heap.size := Nat.le_trans Z330 Kp334.1
              have Wd334 := Wd330.keep Kp334 (allS G330 all0)
              have Ts334 : own_St Z T334.heap b330 t334 kb334 (([(114 : Int32), (101 : Int32), (112 : Int32), (58 : Int32), (71 : Int32), (114 : Int32), (111 : Int32), (117 : Int32), (112 : Int32)] : List Int32).set pp.toNatClampNeg cc) := ⟨A334, Vl334, Cd334, by rw [show ((([(114 : Int32), (101 : Int32), (112 : Int32), (58 : Int32), (71 : Int32), (114 : Int32), (111 : Int32), (117 : Int32), (112 : Int32)] : List Int32).set pp.toNatClampNeg cc)).length = 9 from by simp]; exact V334, hp332, by simp⟩
              refine own_csR [(.ref b330)] 212 st334 ?_
              let L_335 : Array Slot := #[.val (.int p0), .val (.int p1), .val (.int p2), .val (.int p3), .val (.int p4), .val (.int p5), .val (.int (2 : Int32)), .val (.int mm), .val (.int cc), .val (.ref b330), .val (.ref cb324), .val (.int pp)]
              refine own_ls L_335 214 (fun _ q => XS.astore X334.here hx rfl (hb hby at_212) rfl rfl (l' := L_335) rfl q) ?_
              refine own_d0 231 (fun _ q => XS.goto X334.here hx rfl (pc0 := 214) (pc' := 231) rfl (hb hby at_214) (by decide) (by decide) q) ?_
              exact kj56 (.val (.ref cb324)) (.val (.int pp)) T334 _ s.vm T334.heap (.ref b330) (X334.more (by decide) (by decide)) N334 rfl Wd334 hown O334 Z334 rfl (One.val rfl) (One.val rfl) ⟨some _, Or.inr ⟨_, _, _, _, rfl, rfl, Ts334⟩, (fun q => by rcases q with q | q <;> (rw [c322] at q; exact absurd q (by decide)))⟩
            ·
              refine own_d2 172 (fun _ q => XS.icmpNo X0.here hx rfl (hb hby at_169) rfl (feq c322).1 q) ?_
              refine own_tp (.int mm) 174 (fun _ q => XS.iload X0.here hx rfl (hb hby at_172) rfl q) ?_
              refine own_tp (.int (6 : Int32)) 176 (fun _ q => XS.bipush X0.here hx rfl (hb hby at_174) q) ?_
              by_cases c336 : mm = (6 : Int32)
              ·
                refine own_d2 179 (fun _ q => XS.icmpNo X0.here hx rfl (hb hby at_176) rfl (teq c336).2 q) ?_
                refine own_tp (.int (2 : Int32)) 181 (fun _ q => XS.iload X0.here hx rfl (hb hby at_179) rfl q) ?_
                let L_337 : Array Slot := #[.val (.int p0), .val (.int p1), .val (.int p2), .val (.int p3), .val (.int p4), .val (.int p5), .val (.int (2 : Int32)), .val (.int mm), .val (.int cc), .unset, .unset, .unset]
                obtain ⟨_, _, ⟨T338, L338, k338, n338⟩, -, X338, ⟨Lc338, hQ338, l338, y338, z338⟩, st338⟩ := Jvm.LawKit.callS X0 hx (y := (⟨"com/example/leastwise/leastwise/core/AuthorizableTypeOfPinLaw", "full", "(I)[C"⟩ : MethodName)) hown (mvT hZ (hw _ (List.mem_of_getElem? (i := 81) rfl))) (mvT hZ (hw _ (List.mem_of_getElem? (i := 82) rfl))) (mvT hZ (hw _ (List.mem_of_getElem? (i := 6) rfl))) (mvT hZ (hw _ (List.mem_of_getElem? (i := 83) rfl))) (by decide) (backOf (W := 0) (rm18 l Z a0 hw [] h0 n0 Z0) hZ (hw _ (List.mem_of_getElem? (i := 83) rfl)) (hw _ (List.mem_of_getElem? (i := 6) rfl)) (by decide) (by decide)) (g := (mkF m 181 L_337 [(.int (2 : Int32))])) rfl (by rw [hml]; rfl) (argsL := [(.int (2 : Int32))]) (rest := []) (lenOf pd0_3 rfl) rfl (by show 2 * 0 + _ ≤ _; exact Nat.le_of_eq rfl) (hb hby at_181) (fun _ _ => ⟨rfl, e0, (by decide : 0 + 1 ≤ _), (by decide : 0 + 9 ≤ _)⟩)
                dsimp only [Pt.U, Pt.locs, Pt.cells, Pt.slots] at X338 l338 y338 z338 st338 hQ338
                subst l338 y338 z338
                obtain ⟨cb338, kc338, rfl, Nq338, Kp338, ge338, sz338, V338⟩ := hQ338
                have N338 := Fr.app N0 Nq338
                have O338 := Old.keep O0 Kp338 all0
                have Z338 : n0 ≤ T338.heap.size := Nat.le_trans Z0 Kp338.1
                have Wd338 := Wd0.keep Kp338 all0
                refine own_t1 (.ref cb338) 184 st338 ?_
                let L_339 : Array Slot := #[.val (.int p0), .val (.int p1), .val (.int p2), .val (.int p3), .val (.int p4), .val (.int p5), .val (.int (2 : Int32)), .val (.int mm), .val (.int cc), .unset, .val (.ref cb338), .unset]
                refine own_ls L_339 186 (fun _ q => XS.astore X338.here hx rfl (hb hby at_184) rfl rfl (l' := L_339) rfl q) ?_
                refine own_tp (.int p2) 187 (fun _ q => XS.iloadN X338.here hx rfl (hb hby at_186) rfl q) ?_
                refine own_tp (.int (2147483647 : Int32)) 189 (fun _ q => X338.ldcInt hx hown (mvT hZ (hw _ (List.mem_of_getElem? (i := 0) rfl))) (g := (mkF m 187 L_339 [(.int p2)])) rfl (hb hby at_187) _ q) ?_
                refine own_t2 (.int (p2 &&& (2147483647 : Int32))) 190 (fun _ q => XS.iand X338.here hx rfl (hb hby at_189) rfl q) ?_
                refine own_tp (.ref cb338) 192 (fun _ q => XS.aload X338.here hx rfl (hb hby at_190) rfl rfl q) ?_
                obtain ⟨cl340, Ar340, -, Sz340, Nn340, -, -⟩ := (id V338)
                refine own_t1 (.int (9 : Int32)) 193 (fun t q => X338.arraylength hx Ar340.1 (State.isArrayOf_alike hZ.alike Ar340.2.1) (g := (mkF m 192 L_339 [(.ref cb338), (.int (p2 &&& (2147483647 : Int32)))])) rfl rfl (hb hby at_192) _ (by rw [len_of Sz340 Nn340]; exact q)) ?_
                refine own_t2 (.int ((p2 &&& (2147483647 : Int32)) % (9 : Int32))) 194 (fun _ q => iremM (g := (mkF m 193 L_339 [(.int (9 : Int32)), (.int (p2 &&& (2147483647 : Int32)))])) X338 hx rfl (hb hby at_193) rfl (by decide) q) ?_
                obtain ⟨pp, epp, hpp⟩ := own_pos p2 (9 : Int32) 9 rfl (by decide)
                rw [epp]
                let L_341 : Array Slot := #[.val (.int p0), .val (.int p1), .val (.int p2), .val (.int p3), .val (.int p4), .val (.int p5), .val (.int (2 : Int32)), .val (.int mm), .val (.int cc), .unset, .val (.ref cb338), .val (.int pp)]
                refine own_ls L_341 196 (fun _ q => XS.istore X338.here hx rfl (hb hby at_194) rfl (l' := L_341) rfl q) ?_
                refine own_tp (.ref cb338) 198 (fun _ q => XS.aload X338.here hx rfl (hb hby at_196) rfl rfl q) ?_
                refine own_tp (.int pp) 200 (fun _ q => XS.iload X338.here hx rfl (hb hby at_198) rfl q) ?_
                refine own_tp (.int cc) 202 (fun _ q => XS.iload X338.here hx rfl (hb hby at_200) rfl q) ?_
                obtain ⟨cl342, Ar342, q342, S342, Nn342, H342, G342⟩ := (id V338)
                have hin342 : ¬ (pp < 0 ∨ cl342.slots.size ≤ (pp).toNatClampNeg) := inb_of S342 (own_inb (n := (9 : Int32)) rfl hpp)
                obtain ⟨T343, h343, X343, e343, W343, st343⟩ := stC X338 hx hZ rfl Ar342 (j := pp) hin342 (g := (mkF m 202 L_341 [(.int cc), (.int pp), (.ref cb338)])) rfl rfl (hb hby at_202)
                have V343 := Arv.set Ar342 q342 S342 Nn342 H342 G342 (fits_nar_char _) W343 pp.toNatClampNeg rfl (own_pn (m := 9) hpp)
                have N343 := Fr.snoc X343 N338 ge338
                have O343 := Old.wr O338 W343 ge338
                have Z343 : n0 ≤ h343.size := Nat.le_trans Z338 (Nat.le_of_eq W343.size.symm)
                have Wd343 := Wd338.wr W343 (own_safeV hZ.alike V338 (by simp))
                have V343' : Arv Z h343 cb338 kc338 .char (9 : Int32) (([(.int (114 : Int32)), (.int (101 : Int32)), (.int (112 : Int32)), (.int (58 : Int32)), (.int (71 : Int32)), (.int (114 : Int32)), (.int (111 : Int32)), (.int (117 : Int32)), (.int (112 : Int32))] : List Value).set pp.toNatClampNeg (.int cc)) (.int (0 : Int32)) := by have q := V343; first | (rw [own_narc (own_up hcc)] at q; exact q) | (rw [own_i2c (own_up hcc)] at q; exact q)
                refine own_cs [] 203 st343 ?_
                obtain ⟨T344, h344, X344, e344, E344, A344, D344, -, st344⟩ := newO X343 hx hZ hown (hw _ (List.mem_of_getElem? (i := 1) rfl)) (hw _ (List.mem_of_getElem? (i := 2) rfl)) (hw _ (List.mem_of_getElem? (i := 3) rfl)) e343 (g := (mkF m 203 L_341 [])) rfl (hb hby at_203) (by decide) (by decide)
                obtain ⟨b344, g344⟩ : ∃ z, z = h343.size := ⟨_, rfl⟩
                rw [← g344] at A344 D344 st344
                have ge344 : n0 ≤ b344 := Nat.le_trans Z343 (Nat.le_of_eq g344.symm)
                have ne345 : cb338 ≠ b344 := Nat.ne_of_lt (Nat.lt_of_lt_of_le V343'.lt (Nat.le_of_eq g344.symm))
                have O344 := Old.ext O343 E344
                have Z344 : n0 ≤ h344.size := Nat.le_trans Z343 E344.1
                have Wd344 := Wd343.ext E344
                have G344 : Safe Z own_EL s.vm h344 b344 := Safe.ext E344 Wd343.chv (Safe.new (Nat.le_of_eq g344.symm))
                have Fcoder_344 : Fld Z h344 b344 "java/lang/String" "coder" "B" (.int (0 : Int32)) := D344 (Or.inr (hw _ (List.mem_of_getElem? (i := 32) rfl))) (ty := .byte) (by decide)
                have Fvalue_344 : Fld Z h344 b344 "java/lang/String" "value" "[B" .null := D344 (Or.inr (hw _ (List.mem_of_getElem? (i := 34) rfl))) (ty := (.array .byte)) (by decide)
                refine own_tp (.ref b344) 206 st344 ?_
                refine own_tp (.ref b344) 207 (fun _ q => XS.dup X344.here hx rfl (hb hby at_206) rfl rfl q) ?_
                refine own_tp (.ref cb338) 209 (fun _ q => XS.aload X344.here hx rfl (hb hby at_207) rfl rfl q) ?_
                have hws : ∀ d ∈ StrChars.Road.words, d.before a0 Z = true := fun d hd => hw d ((by decide +kernel : ∀ d ∈ StrChars.Road.words, d ∈ tables_1) d hd)
                have hp346 : ∀ c ∈ (([(114 : Int32), (101 : Int32), (112 : Int32), (58 : Int32), (71 : Int32), (114 : Int32), (111 : Int32), (117 : Int32), (112 : Int32)] : List Int32).set pp.toNatClampNeg cc), ¬ c < 0 ∧ ¬ (255 : Int32) < c := own_setch (by decide) (own_ch hcc)
                have f347 := (V343'.ext E344)
                have Vs346 : Arv Z h344 cb338 kc338 .char (9 : Int32) ((([(114 : Int32), (101 : Int32), (112 : Int32), (58 : Int32), (71 : Int32), (114 : Int32), (111 : Int32), (117 : Int32), (112 : Int32)] : List Int32).set pp.toNatClampNeg cc).map Value.int) (.int (0 : Int32)) := by rw [List.map_set]; exact f347
                obtain ⟨_, _, ⟨T348, L348, k348, n348⟩, -, X348, ⟨Lc348, hQ348, l348, y348, z348⟩, st348⟩ := X344.specialBack hx (y := (⟨"java/lang/String", "<init>", "([C)V"⟩ : MethodName)) rfl hown (mvT hZ (hw _ (List.mem_of_getElem? (i := 9) rfl))) (mvT hZ (hw _ (List.mem_of_getElem? (i := 10) rfl))) (mvT hZ (hw _ (List.mem_of_getElem? (i := 11) rfl))) (by decide) (StrChars.Road.backV (W := 1) hZ hws (kI := 4) (hw _ (List.mem_of_getElem? (i := 2) rfl)) (cs := (([(114 : Int32), (101 : Int32), (112 : Int32), (58 : Int32), (71 : Int32), (114 : Int32), (111 : Int32), (117 : Int32), (112 : Int32)] : List Int32).set pp.toNatClampNeg cc)) (bs := (([(114 : Int32), (101 : Int32), (112 : Int32), (58 : Int32), (71 : Int32), (114 : Int32), (111 : Int32), (117 : Int32), (112 : Int32)] : List Int32).set pp.toNatClampNeg cc).map (fun c => c.toInt8.toInt32)) (n := 9) ge344 Z344 A344 Fvalue_344 Fcoder_344 Vs346 (Sc.ext O344.2) P5 (by simp) rfl (by decide) (by decide) hp346 rfl (by decide) (by decide)) (g := (mkF m 209 L_341 [(.ref cb338), (.ref b344), (.ref b344)])) rfl (by rw [hml]; rfl) (Steps.refl _) (a := b344) (argsL := [(.ref cb338)]) (rest := [(.ref b344)]) (lenOf pd0_2 rfl) rfl (by show 2 * 0 + _ ≤ _; exact Nat.le_of_eq rfl) (hb hby at_209) (fun _ _ => ⟨rfl, e344, (by decide : 2 + 1 ≤ _), (by decide : 13 + 9 ≤ _)⟩)
                dsimp only [Pt.U, Pt.locs, Pt.cells, Pt.slots] at X348 l348 y348 z348 st348 hQ348
                subst l348 y348 z348
                obtain ⟨rfl, Nq348, Kp348, A348, Cd348, t348, kb348, gt348, ht348, nt348, Vl348, V348⟩ := hQ348
                have N348 := Fr.app N343 Nq348
                have O348 := Old.keep O344 Kp348 (allS ge344 all0)
                have Z348 : n0 ≤ T348.heap.size := Nat.le_trans Z344 Kp348.1
                have Wd348 := Wd344.keep Kp348 (allS G344 all0)
                have Ts348 : own_St Z T348.heap b344 t348 kb348 (([(114 : Int32), (101 : Int32), (112 : Int32), (58 : Int32), (71 : Int32), (114 : Int32), (111 : Int32), (117 : Int32), (112 : Int32)] : List Int32).set pp.toNatClampNeg cc) := ⟨A348, Vl348, Cd348, by rw [show ((([(114 : Int32), (101 : Int32), (112 : Int32), (58 : Int32), (71 : Int32), (114 : Int32), (111 : Int32), (117 : Int32), (112 : Int32)] : List Int32).set pp.toNatClampNeg cc)).length = 9 from by simp]; exact V348, hp346, by simp⟩
                refine own_csR [(.ref b344)] 212 st348 ?_
                let L_349 : Array Slot := #[.val (.int p0), .val (.int p1), .val (.int p2), .val (.int p3), .val (.int p4), .val (.int p5), .val (.int (2 : Int32)), .val (.int mm), .val (.int cc), .val (.ref b344), .val (.ref cb338), .val (.int pp)]
                refine own_ls L_349 214 (fun _ q => XS.astore X348.here hx rfl (hb hby at_212) rfl rfl (l' := L_349) rfl q) ?_
                refine own_d0 231 (fun _ q => XS.goto X348.here hx rfl (pc0 := 214) (pc' := 231) rfl (hb hby at_214) (by decide) (by decide) q) ?_
                exact kj56 (.val (.ref cb338)) (.val (.int pp)) T348 _ s.vm T348.heap (.ref b344) (X348.more (by decide) (by decide)) N348 rfl Wd348 hown O348 Z348 rfl (One.val rfl) (One.val rfl) ⟨some _, Or.inr ⟨_, _, _, _, rfl, rfl, Ts348⟩, (fun q => by rcases q with q | q <;> (rw [c336] at q; exact absurd q (by decide)))⟩
              ·
                refine own_d2 217 (fun _ q => XS.icmpYes X0.here hx rfl (pc0 := 176) (pc' := 217) rfl (hb hby at_176) rfl (feq c336).2 (by decide) (by decide) q) ?_
                let L_350 : Array Slot := #[.val (.int p0), .val (.int p1), .val (.int p2), .val (.int p3), .val (.int p4), .val (.int p5), .val (.int (2 : Int32)), .val (.int mm), .val (.int cc), .unset, .unset, .unset]
                obtain ⟨T351, h351, X351, e351, E351, A351, D351, -, st351⟩ := newO X0 hx hZ hown (hw _ (List.mem_of_getElem? (i := 1) rfl)) (hw _ (List.mem_of_getElem? (i := 2) rfl)) (hw _ (List.mem_of_getElem? (i := 3) rfl)) e0 (g := (mkF m 217 L_350 [])) rfl (hb hby at_217) (by decide) (by decide)
                obtain ⟨b351, g351⟩ : ∃ z, z = h0.size := ⟨_, rfl⟩
                rw [← g351] at A351 D351 st351
                have ge351 : n0 ≤ b351 := Nat.le_trans Z0 (Nat.le_of_eq g351.symm)
                have O351 := Old.ext O0 E351
                have Z351 : n0 ≤ h351.size := Nat.le_trans Z0 E351.1
                have Wd351 := Wd0.ext E351
                have G351 : Safe Z own_EL s.vm h351 b351 := Safe.ext E351 Wd0.chv (Safe.new (Nat.le_of_eq g351.symm))
                have Fcoder_351 : Fld Z h351 b351 "java/lang/String" "coder" "B" (.int (0 : Int32)) := D351 (Or.inr (hw _ (List.mem_of_getElem? (i := 32) rfl))) (ty := .byte) (by decide)
                have Fvalue_351 : Fld Z h351 b351 "java/lang/String" "value" "[B" .null := D351 (Or.inr (hw _ (List.mem_of_getElem? (i := 34) rfl))) (ty := (.array .byte)) (by decide)
                refine own_tp (.ref b351) 220 st351 ?_
                refine own_tp (.ref b351) 221 (fun _ q => XS.dup X351.here hx rfl (hb hby at_220) rfl rfl q) ?_
                refine own_tp (.int (2 : Int32)) 223 (fun _ q => XS.iload X351.here hx rfl (hb hby at_221) rfl q) ?_
                obtain ⟨_, _, ⟨T352, L352, k352, n352⟩, -, X352, ⟨Lc352, hQ352, l352, y352, z352⟩, st352⟩ := Jvm.LawKit.callS X351 hx (y := (⟨"com/example/leastwise/leastwise/core/AuthorizableTypeOfPinLaw", "full", "(I)[C"⟩ : MethodName)) hown (mvT hZ (hw _ (List.mem_of_getElem? (i := 81) rfl))) (mvT hZ (hw _ (List.mem_of_getElem? (i := 82) rfl))) (mvT hZ (hw _ (List.mem_of_getElem? (i := 6) rfl))) (mvT hZ (hw _ (List.mem_of_getElem? (i := 83) rfl))) (by decide) (backOf (W := 2) (rm18 l Z a0 hw [] h351 n0 Z351) hZ (hw _ (List.mem_of_getElem? (i := 83) rfl)) (hw _ (List.mem_of_getElem? (i := 6) rfl)) (by decide) (by decide)) (g := (mkF m 223 L_350 [(.int (2 : Int32)), (.ref b351), (.ref b351)])) rfl (by rw [hml]; rfl) (argsL := [(.int (2 : Int32))]) (rest := [(.ref b351), (.ref b351)]) (lenOf pd0_3 rfl) rfl (by show 2 * 0 + _ ≤ _; exact Nat.le_of_eq rfl) (hb hby at_223) (fun _ _ => ⟨rfl, e351, (by decide : 1 + 1 ≤ _), (by decide : 4 + 9 ≤ _)⟩)
                dsimp only [Pt.U, Pt.locs, Pt.cells, Pt.slots] at X352 l352 y352 z352 st352 hQ352
                subst l352 y352 z352
                obtain ⟨cb352, kc352, rfl, Nq352, Kp352, ge352, sz352, V352⟩ := hQ352
                have ne353 : b351 ≠ cb352 := Nat.ne_of_lt (Nat.lt_of_lt_of_le A351.lt sz352)
                have N352 := Fr.app N0 Nq352
                have O352 := Old.keep O351 Kp352 all0
                have Z352 : n0 ≤ T352.heap.size := Nat.le_trans Z351 Kp352.1
                have Wd352 := Wd351.keep Kp352 all0
                refine own_t1 (.ref cb352) 226 st352 ?_
                have f355 := (Safe.keep Kp352 all0 Wd351.chv G351)
                have hws : ∀ d ∈ StrChars.Road.words, d.before a0 Z = true := fun d hd => hw d ((by decide +kernel : ∀ d ∈ StrChars.Road.words, d ∈ tables_1) d hd)
                have hp354 : ∀ c ∈ ([(114 : Int32), (101 : Int32), (112 : Int32), (58 : Int32), (71 : Int32), (114 : Int32), (111 : Int32), (117 : Int32), (112 : Int32)] : List Int32), ¬ c < 0 ∧ ¬ (255 : Int32) < c := by
                  intro c hc
                  simp only [List.mem_cons, List.not_mem_nil, or_false] at hc
                  rcases hc with rfl | rfl | rfl | rfl | rfl | rfl | rfl | rfl | rfl
                  · exact (by decide)
                  · exact (by decide)
                  · exact (by decide)
                  · exact (by decide)
                  · exact (by decide)
                  · exact (by decide)
                  · exact (by decide)
                  · exact (by decide)
                  · exact (by decide)
                have f356 := (A351.keep Kp352)
                have f357 := (Fvalue_351.keep Kp352 nin0)
                have f358 := (Fcoder_351.keep Kp352 nin0)
                obtain ⟨_, _, ⟨T359, L359, k359, n359⟩, -, X359, ⟨Lc359, hQ359, l359, y359, z359⟩, st359⟩ := X352.specialBack hx (y := (⟨"java/lang/String", "<init>", "([C)V"⟩ : MethodName)) rfl hown (mvT hZ (hw _ (List.mem_of_getElem? (i := 9) rfl))) (mvT hZ (hw _ (List.mem_of_getElem? (i := 10) rfl))) (mvT hZ (hw _ (List.mem_of_getElem? (i := 11) rfl))) (by decide) (StrChars.Road.backV (W := 1) hZ hws (kI := 4) (hw _ (List.mem_of_getElem? (i := 2) rfl)) (cs := ([(114 : Int32), (101 : Int32), (112 : Int32), (58 : Int32), (71 : Int32), (114 : Int32), (111 : Int32), (117 : Int32), (112 : Int32)] : List Int32)) (bs := ([(114 : Int32), (101 : Int32), (112 : Int32), (58 : Int32), (71 : Int32), (114 : Int32), (111 : Int32), (117 : Int32), (112 : Int32)] : List Int32).map (fun c => c.toInt8.toInt32)) (n := 9) ge351 Z352 f356 f357 f358 V352 (Sc.ext O352.2) P5 rfl rfl (by decide) (by decide) hp354 rfl (by decide) (by decide)) (g := (mkF m 226 L_350 [(.ref cb352), (.ref b351), (.ref b351)])) rfl (by rw [hml]; rfl) (Steps.refl _) (a := b351) (argsL := [(.ref cb352)]) (rest := [(.ref b351)]) (lenOf pd0_2 rfl) rfl (by show 2 * 0 + _ ≤ _; exact Nat.le_of_eq rfl) (hb hby at_226) (fun _ _ => ⟨rfl, rfl, (by decide : 2 + 1 ≤ _), (by decide : 13 + 9 ≤ _)⟩)
                dsimp only [Pt.U, Pt.locs, Pt.cells, Pt.slots] at X359 l359 y359 z359 st359 hQ359
                subst l359 y359 z359
                obtain ⟨rfl, Nq359, Kp359, A359, Cd359, t359, kb359, gt359, ht359, nt359, Vl359, V359⟩ := hQ359
                have N359 := Fr.app N352 Nq359
                have O359 := Old.keep O352 Kp359 (allS ge351 all0)
                have Z359 : n0 ≤ T359.heap.size := Nat.le_trans Z352 Kp359.1
                have Wd359 := Wd352.keep Kp359 (allS f355 all0)
                have Ts359 : own_St Z T359.heap b351 t359 kb359 ([(114 : Int32), (101 : Int32), (112 : Int32), (58 : Int32), (71 : Int32), (114 : Int32), (111 : Int32), (117 : Int32), (112 : Int32)] : List Int32) := ⟨A359, Vl359, Cd359, V359, hp354, by simp⟩
                refine own_csR [(.ref b351)] 229 st359 ?_
                let L_360 : Array Slot := #[.val (.int p0), .val (.int p1), .val (.int p2), .val (.int p3), .val (.int p4), .val (.int p5), .val (.int (2 : Int32)), .val (.int mm), .val (.int cc), .val (.ref b351), .unset, .unset]
                refine own_ls L_360 231 (fun _ q => XS.astore X359.here hx rfl (hb hby at_229) rfl rfl (l' := L_360) rfl q) ?_
                exact kj56 (.unset) (.unset) T359 _ s.vm T359.heap (.ref b351) (X359.more (by decide) (by decide)) N359 rfl Wd359 hown O359 Z359 rfl One.u One.u ⟨some _, Or.inr ⟨_, _, _, _, rfl, rfl, Ts359⟩, (fun _ => rfl)⟩

set_option maxRecDepth 65536 in
set_option maxHeartbeats 40000000 in
theorem comes_1 {Post : Tables → Env → Array Value → State → Outcome → State → Prop} (hpost : ∀ tb e args s v u, (limb_1_1.after args s (.returned v) u = true ∧ limb_1_2.after args s (.returned v) u = true ∧ True) → ReturnedEndW s (.returned v) u (Jvm.fieldLocs frame_1_writes args s ++ Jvm.arrayLocs frame_1_arrays args s ++ Jvm.staticLocs frame_1_statics s) 24 4288 → Post tb e args s (.returned v) u) :
    ArmFor flags0 classFile x code maxLocals ret World_1 tables_1 room_1 Calls_1 rest_1 Pre_1 Post := by
  intro l hfl _ _ p e ha hc hk s m args below hf hA hF happ hP
  obtain ⟨hcalls, hrest, hpre⟩ := hP
  obtain ⟨-, -, -, hnamed, -, -, -, hat⟩ := (Spec.applies_iff hf).mp happ
  obtain ⟨hg, hn⟩ := and_e (Cond.before_iff.mp (show (Jvm.Cond.and given_1 narrow_1).before args s = true from hpre))
  obtain ⟨hcount, hg0⟩ := and_e hg
  obtain ⟨hv0, hg1⟩ := and_e hg0
  obtain ⟨hv1, hg2⟩ := and_e hg1
  obtain ⟨hv2, hg3⟩ := and_e hg2
  obtain ⟨hv3, hg4⟩ := and_e hg3
  obtain ⟨hv4, hg5⟩ := and_e hg4
  obtain ⟨w0, w1, w2, w3, w4, w5, rfl⟩ : ∃ w0 w1 w2 w3 w4 w5 : Value, args = #[w0, w1, w2, w3, w4, w5] := by
    have hs : args.size = 6 := by simpa [Cond.value, given_1] using hcount
    obtain ⟨L⟩ := args
    match L, hs with
    | [w0, w1, w2, w3, w4, w5], _ => exact ⟨w0, w1, w2, w3, w4, w5, rfl⟩
  have hw := fun d (hd : d ∈ tables_1) => atoms_spec (ws := Jvm.Cond.code x code maxLocals ret :: tables_1) hat d (List.mem_cons_of_mem _ hd)
  have hfit : Fit s := fun {y c} hc i hi => by
    obtain ⟨ha, rfl⟩ := Array.getElem?_eq_some_iff.mp hc
    have q := List.all_eq_true.mp ((Array.all_eq_true_iff_forall_mem.mp hF) _ (Array.getElem_mem ha)) i (List.mem_range.mpr hi)
    simpa [Array.getElem?_eq_getElem hi] using q
  obtain ⟨i0, ei0⟩ := is_v hv0
  obtain rfl : w0 = (.int i0) := Option.some.inj ei0
  obtain ⟨i1, ei1⟩ := is_v hv1
  obtain rfl : w1 = (.int i1) := Option.some.inj ei1
  obtain ⟨i2, ei2⟩ := is_v hv2
  obtain rfl : w2 = (.int i2) := Option.some.inj ei2
  obtain ⟨i3, ei3⟩ := is_v hv3
  obtain rfl : w3 = (.int i3) := Option.some.inj ei3
  obtain ⟨i4, ei4⟩ := is_v hv4
  obtain rfl : w4 = (.int i4) := Option.some.inj ei4
  obtain ⟨i5, ei5⟩ := is_v hg5
  obtain rfl : w5 = (.int i5) := Option.some.inj ei5
  obtain ⟨hsets, hown0⟩ := atoms_of _ (rest_1_c_eq ▸ (show rest_1_c.before _ s = true from hrest))
  obtain ⟨G1, eG1⟩ := is_v (Cond.before_iff.mp (hsets _ (List.mem_of_getElem? (i := 1) rfl)))
  have Sc : Sta s s.heap "java/lang/String" "COMPACT_STRINGS" "Z" (.int G1) := Sta.start eG1 (Or.inl (hsets _ (List.mem_of_getElem? (i := 0) rfl)))
  have P5 : ¬ (G1 = (0 : Int32)) := gotF (Cond.eq_ints eG1 (Term.int_eval (0))) (not_v (Cond.before_iff.mp (hsets _ (List.mem_of_getElem? (i := 2) rfl))))
  have hE : EW s _ own_EL := EW.cons (hw _ (List.mem_of_getElem? (i := 38) rfl)) (by decide) (EW.cons (hw _ (List.mem_of_getElem? (i := 51) rfl)) (by decide) (EW.cons (hw _ (List.mem_of_getElem? (i := 52) rfl)) (by decide) (EW.cons (hw _ (List.mem_of_getElem? (i := 91) rfl)) (by decide) (EW.nil))))
  have hC : CHv s own_EL s.vm s.heap := CHv.start hE (fun p hp => by first | exact hcalls.1 p hp | exact hcalls.1 p ((by decide +kernel : ∀ p ∈ own_EL, p ∈ consts_1) p hp)) (hsets _ (List.mem_of_getElem? (i := 2) rfl)) (hw _ (List.mem_of_getElem? (i := 24) rfl)) (hw _ (List.mem_of_getElem? (i := 2) rfl))
  obtain ⟨n0, hn⟩ := and_e hn
  obtain ⟨n1, hn⟩ := and_e hn
  obtain ⟨n2, hn⟩ := and_e hn
  obtain ⟨n3, hn⟩ := and_e hn
  obtain ⟨n4, hn⟩ := and_e hn
  obtain ⟨n5, hn⟩ := and_e hn
  obtain ⟨n6, hn⟩ := and_e hn
  obtain ⟨n7, hn⟩ := and_e hn
  obtain ⟨n8, hn⟩ := and_e hn
  obtain ⟨n9, hn⟩ := and_e hn
  obtain ⟨n10, hn⟩ := and_e hn
  obtain ⟨n11, hn⟩ := and_e hn
  obtain ⟨n12, hn⟩ := and_e hn
  obtain ⟨n13, hn⟩ := and_e hn
  obtain ⟨n14, hn⟩ := and_e hn
  obtain ⟨n15, hn⟩ := and_e hn
  obtain ⟨n16, hn⟩ := and_e hn
  obtain ⟨n17, hn⟩ := and_e hn
  obtain ⟨n18, hn⟩ := and_e hn
  obtain ⟨n19, hn⟩ := and_e hn
  obtain ⟨n20, hn⟩ := and_e hn
  obtain ⟨n21, hn⟩ := and_e hn
  obtain ⟨n22, hn⟩ := and_e hn
  obtain ⟨n23, hn⟩ := and_e hn
  obtain ⟨n24, hn⟩ := and_e hn
  obtain ⟨n25, hn⟩ := and_e hn
  obtain ⟨n26, hn⟩ := and_e hn
  obtain ⟨n27, hn⟩ := and_e hn
  obtain ⟨n28, hn⟩ := and_e hn
  obtain ⟨n29, hn⟩ := and_e hn
  obtain ⟨n30, hn⟩ := and_e hn
  obtain ⟨n31, hn⟩ := and_e hn
  obtain ⟨n32, hn⟩ := and_e hn
  obtain ⟨n33, hn⟩ := and_e hn
  obtain ⟨n34, hn⟩ := and_e hn
  obtain ⟨n35, hn⟩ := and_e hn
  obtain ⟨n36, hn⟩ := and_e hn
  obtain ⟨n37, hn⟩ := and_e hn
  obtain ⟨n38, hn⟩ := and_e hn
  obtain ⟨n39, hn⟩ := and_e hn
  obtain ⟨n40, hn⟩ := and_e hn
  obtain ⟨n41, hn⟩ := and_e hn
  obtain ⟨n42, hn⟩ := and_e hn
  obtain ⟨n43, hn⟩ := and_e hn
  obtain ⟨n44, hn⟩ := and_e hn
  obtain ⟨n45, hn⟩ := and_e hn
  obtain ⟨n46, hn⟩ := and_e hn
  obtain ⟨n47, hn⟩ := and_e hn
  obtain ⟨n48, hn⟩ := and_e hn
  obtain ⟨n49, hn⟩ := and_e hn
  obtain ⟨n50, hn⟩ := and_e hn
  have n51 := hn
  obtain ⟨aa0, w_0, S0, E0⟩ := own_sta (hw _ (List.mem_of_getElem? (i := 55) rfl)) (hw _ (List.mem_of_getElem? (i := 69) rfl)) n3
  obtain ⟨p0s, u0⟩ := exa_v n9
  have F0 : Fld s s.heap aa0 "com/example/leastwise/leastwise/core/AuthorizableType" "primaryType" "Ljava/lang/String;" (.ref p0s) := Fld.start ((fld_at w_0).symm.trans u0)
  have X0s := Exa.start u0 n9
  have C0s := own_fld u0 n10
  obtain ⟨v0s, x0⟩ := arr_v n11
  have L0s : Fld s s.heap p0s "java/lang/String" "value" "[B" (.ref v0s) := Fld.start ((fld_at u0).symm.trans x0)
  obtain ⟨k0s, V0s⟩ := own_starr hfit x0 n11 n12 (vs := [(.int (114 : Int32)), (.int (101 : Int32)), (.int (112 : Int32)), (.int (58 : Int32)), (.int (83 : Int32)), (.int (121 : Int32)), (.int (115 : Int32)), (.int (116 : Int32)), (.int (101 : Int32)), (.int (109 : Int32)), (.int (85 : Int32)), (.int (115 : Int32)), (.int (101 : Int32)), (.int (114 : Int32))]) (by decide) (by decide) ⟨own_elI x0 n21, own_elI x0 n22, own_elI x0 n23, own_elI x0 n24, own_elI x0 n25, own_elI x0 n26, own_elI x0 n27, own_elI x0 n28, own_elI x0 n29, own_elI x0 n30, own_elI x0 n31, own_elI x0 n32, own_elI x0 n33, own_elI x0 n34, trivial⟩
  have T0s : own_St s s.heap p0s v0s k0s [(114 : Int32), (101 : Int32), (112 : Int32), (58 : Int32), (83 : Int32), (121 : Int32), (115 : Int32), (116 : Int32), (101 : Int32), (109 : Int32), (85 : Int32), (115 : Int32), (101 : Int32), (114 : Int32)] := ⟨X0s, L0s, C0s, V0s, by decide, by decide⟩
  obtain ⟨a1, w1, S1, E1⟩ := own_sta (hw _ (List.mem_of_getElem? (i := 55) rfl)) (hw _ (List.mem_of_getElem? (i := 70) rfl)) n5
  obtain ⟨p1s, u1⟩ := exa_v n13
  have F1 : Fld s s.heap a1 "com/example/leastwise/leastwise/core/AuthorizableType" "primaryType" "Ljava/lang/String;" (.ref p1s) := Fld.start ((fld_at w1).symm.trans u1)
  have X1s := Exa.start u1 n13
  have C1s := own_fld u1 n14
  obtain ⟨v1s, x1⟩ := arr_v n15
  have L1s : Fld s s.heap p1s "java/lang/String" "value" "[B" (.ref v1s) := Fld.start ((fld_at u1).symm.trans x1)
  obtain ⟨k1s, V1s⟩ := own_starr hfit x1 n15 n16 (vs := [(.int (114 : Int32)), (.int (101 : Int32)), (.int (112 : Int32)), (.int (58 : Int32)), (.int (85 : Int32)), (.int (115 : Int32)), (.int (101 : Int32)), (.int (114 : Int32))]) (by decide) (by decide) ⟨own_elI x1 n35, own_elI x1 n36, own_elI x1 n37, own_elI x1 n38, own_elI x1 n39, own_elI x1 n40, own_elI x1 n41, own_elI x1 n42, trivial⟩
  have T1s : own_St s s.heap p1s v1s k1s [(114 : Int32), (101 : Int32), (112 : Int32), (58 : Int32), (85 : Int32), (115 : Int32), (101 : Int32), (114 : Int32)] := ⟨X1s, L1s, C1s, V1s, by decide, by decide⟩
  obtain ⟨a2, w2, S2, E2⟩ := own_sta (hw _ (List.mem_of_getElem? (i := 55) rfl)) (hw _ (List.mem_of_getElem? (i := 71) rfl)) n7
  obtain ⟨p2s, u2⟩ := exa_v n17
  have F2 : Fld s s.heap a2 "com/example/leastwise/leastwise/core/AuthorizableType" "primaryType" "Ljava/lang/String;" (.ref p2s) := Fld.start ((fld_at w2).symm.trans u2)
  have X2s := Exa.start u2 n17
  have C2s := own_fld u2 n18
  obtain ⟨v2s, x2⟩ := arr_v n19
  have L2s : Fld s s.heap p2s "java/lang/String" "value" "[B" (.ref v2s) := Fld.start ((fld_at u2).symm.trans x2)
  obtain ⟨k2s, V2s⟩ := own_starr hfit x2 n19 n20 (vs := [(.int (114 : Int32)), (.int (101 : Int32)), (.int (112 : Int32)), (.int (58 : Int32)), (.int (71 : Int32)), (.int (114 : Int32)), (.int (111 : Int32)), (.int (117 : Int32)), (.int (112 : Int32))]) (by decide) (by decide) ⟨own_elI x2 n43, own_elI x2 n44, own_elI x2 n45, own_elI x2 n46, own_elI x2 n47, own_elI x2 n48, own_elI x2 n49, own_elI x2 n50, own_elI x2 n51, trivial⟩
  have T2s : own_St s s.heap p2s v2s k2s [(114 : Int32), (101 : Int32), (112 : Int32), (58 : Int32), (71 : Int32), (114 : Int32), (111 : Int32), (117 : Int32), (112 : Int32)] := ⟨X2s, L2s, C2s, V2s, by decide, by decide⟩
  obtain ⟨av, xv⟩ := exa_v n1
  have Sv : Sta s s.heap "com/example/leastwise/leastwise/core/AuthorizableType" "$VALUES" "[Lcom/example/leastwise/leastwise/core/AuthorizableType;" (.ref av) := Sta.start xv (Or.inr ⟨(hw _ (List.mem_of_getElem? (i := 55) rfl)), (hw _ (List.mem_of_getElem? (i := 61) rfl))⟩)
  have Ev := Exa.start xv n1
  obtain ⟨kv, Vv⟩ := own_starr hfit xv n0 n2 (vs := [.ref aa0, .ref a1, .ref a2]) (by decide) rfl ⟨own_elR xv w_0 n4, own_elR xv w1 n6, own_elR xv w2 n8, trivial⟩
  obtain ⟨n, o, h1, h2, h3, _, L, rfl, ⟨rfl, N⟩, -, hq⟩ := rm0 l s _ hw tables_1 i0 i1 i2 i3 i4 i5 s.heap s.heap.size hE (Nat.le_refl _) G1 P5 (Old.start s) Sc aa0 p0s v0s k0s S0 E0 F0 T0s a1 p1s v1s k1s S1 E1 F1 T1s a2 p2s v2s k2s S2 E2 F2 T2s av kv Sv Ev Vv p e ha hc hk s m _ below hf ((Spec.applies_iff_loose hf).mp happ).1 ⟨rfl, State.Warmed39.refl s, rfl, hC⟩ trivial
  refine ⟨n, _, h1, h2, h3, hpost _ _ _ _ _ _ ⟨Cond.after_iff.mpr rfl, Cond.after_iff.mpr (eq_i res_at (Term.int_eval (1)) rfl), trivial⟩ ⟨hq.1, hq.2.1, hq.2.2.1, (hq.2.2.2.sift fun y hy => Or.inr (N y hy)).mono (by decide) (by decide)⟩⟩
theorem main_1_1 : Claimed_1_1 := comes_1 fun _ _ _ _ _ _ h hF => ⟨h.1, hF⟩
theorem main_1_2 : Claimed_1_2 := comes_1 fun _ _ _ _ _ _ h hF => ⟨h.2.1, hF⟩
end Jvm.Pilot.@@N@@
namespace Jvm.Pilot.@@N@@
open Jvm Jvm.ClassFile Sem Op Lib Jvm.Free Jvm.Stand Jvm.Pilot.@@N@@.Jvm.D
/-! MADE BY PROGRAM (witnessworld.py) out of the Statement's table words and the real class files: 22 classes; the members and pool entries that the words name. The judged class is class 1, her method 1. -/
namespace start1
open Jvm.ClassFile
def u (s : String) : CpInfo := .utf8 (stringToUtf16 s)
/-- a pool by its gaps: so many unusable entries, then the entry; so many at the end -/
def gap : Nat → List CpInfo → List CpInfo
  | 0, r => r
  | n + 1, r => .unusable :: gap n r
def poolList (es : List (Nat × CpInfo)) (last : Nat) : List CpInfo := es.foldr (fun e r => gap e.1 (e.2 :: r)) (gap last [])
def pool (es : List (Nat × CpInfo)) (last : Nat) : Array CpInfo := ⟨poolList es last⟩
def fileOf (pool : Array CpInfo) (this : Nat) (attrs : Array Attribute := #[]) (ms : Array MethodInfo := #[]) (fl : Nat := 33) (sup : Nat := 0) (ifs : Array Nat := #[]) (fds : Array FieldInfo := #[]) : ClassFile where
  minorVersion := 0
  majorVersion := 65
  constantPool := pool
  accessFlags := fl
  thisClass := this
  superClass := sup
  interfaces := ifs
  fields := fds
  methods := ms
  attributes := attrs
def plain (name : String) (sup : Option ClassId) : Class where
  name := name
  kind := .ordinary
  loader := none
  accessFlags := 33
  super := sup
  interfaces := #[]
  cf := none
  fields := #[]
  methods := #[]
  instanceTypes := #[]
  staticTypes := #[]
  resolved := #[]
  callSites := []
  init := .initialized
  statics := none
  mirror := none

def pool0 : Array CpInfo := pool [(5, u "<init>"), (0, u "()V"), (1, .class_ 10), (1, u "java/lang/Object"), (85, u "clone"), (0, u "()Ljava/lang/Object;")] 26

def k0c0 : Code := { maxStack := 0, maxLocals := 1, code := object_method_1_code, exceptionTable := #[], attributes := #[] }
def k0m0 : Method := { name := "<init>", desc := "()V", sig := { parameters := [], returnType := none }, accessFlags := 1, code := some k0c0 }
def k0m1 : Method := { name := "clone", desc := "()Ljava/lang/Object;", sig := { parameters := [], returnType := some (.object "java/lang/Object") }, accessFlags := 260, code := none }
/-- java/lang/Object -/
def k0 : Class := { plain "java/lang/Object" none with
  accessFlags := 33
  interfaces := #[]
  cf := some (fileOf pool0 8 #[] #[{ accessFlags := 1, nameIndex := 5, descriptorIndex := 6, attributes := #[] }, { accessFlags := 260, nameIndex := 96, descriptorIndex := 97, attributes := #[] }] 33 0 #[] #[])
  fields := #[]
  methods := #[k0m0, k0m1]
  instanceTypes := #[]
  staticTypes := #[]
  resolved := Array.replicate 124 none
  statics := none }

def pool1 : Array CpInfo := pool [(2, .class_ 4), (1, u "java/lang/Object"), (0, u "<init>"), (0, u "()V"), (0, .integer 2147483647), (0, .integer 65536), (0, .string 10), (0, u ""), (0, .class_ 12), (0, u "java/lang/String"), (0, .methodref 11 14), (0, .nameAndType 5 15), (0, u "([C)V"), (0, .methodref 17 18), (0, .class_ 19), (0, .nameAndType 20 21), (0, u "com/example/leastwise/leastwise/core/AuthorizableTypeOfPinLaw"), (0, u "extended"), (0, u "(I)[C"), (0, .methodref 17 23), (0, .nameAndType 24 25), (0, u "truncated"), (0, u "(IZ)[C"), (0, .methodref 17 27), (0, .nameAndType 28 21), (0, u "full"), (0, .methodref 17 30), (0, .nameAndType 31 32), (0, u "reference"), (0, u "(Ljava/lang/String;)Lcom/example/leastwise/leastwise/core/AuthorizableType;"), (0, .methodref 34 35), (0, .class_ 36), (0, .nameAndType 37 32), (0, u "com/example/leastwise/leastwise/core/AuthorizableType"), (0, u "of"), (0, .methodref 17 39), (0, .nameAndType 40 41), (0, u "byIndex"), (0, u "(I)Lcom/example/leastwise/leastwise/core/AuthorizableType;"), (0, .string 43), (0, u "rep:SystemUser"), (0, .methodref 11 45), (0, .nameAndType 46 47), (0, u "equals"), (0, u "(Ljava/lang/Object;)Z"), (0, .fieldref 34 49), (0, .nameAndType 50 51), (0, u "SYSTEM_USER"), (0, u "Lcom/example/leastwise/leastwise/core/AuthorizableType;"), (0, .string 53), (0, u "rep:User"), (0, .fieldref 34 55), (0, .nameAndType 56 51), (0, u "USER"), (0, .string 58), (0, u "rep:Group"), (0, .fieldref 34 60), (0, .nameAndType 61 51), (0, u "GROUP"), (2, u "law"), (0, u "(IIIIII)Z")] 3

def k1m0 : Method := { name := "<init>", desc := "()V", sig := { parameters := [], returnType := none }, accessFlags := 1, code := none }
def k1c1 : Code := { maxStack := 7, maxLocals := 12, code := code, exceptionTable := #[], attributes := #[] }
def k1m1 : Method := { name := "law", desc := "(IIIIII)Z", sig := { parameters := [.int, .int, .int, .int, .int, .int], returnType := some .boolean }, accessFlags := 9, code := some k1c1 }
def k1c2 : Code := { maxStack := 2, maxLocals := 1, code := method_3_code, exceptionTable := #[], attributes := #[] }
def k1m2 : Method := { name := "reference", desc := "(Ljava/lang/String;)Lcom/example/leastwise/leastwise/core/AuthorizableType;", sig := { parameters := [(.object "java/lang/String")], returnType := some (.object "com/example/leastwise/leastwise/core/AuthorizableType") }, accessFlags := 10, code := some k1c2 }
def k1c3 : Code := { maxStack := 2, maxLocals := 1, code := method_4_code, exceptionTable := #[], attributes := #[] }
def k1m3 : Method := { name := "byIndex", desc := "(I)Lcom/example/leastwise/leastwise/core/AuthorizableType;", sig := { parameters := [.int], returnType := some (.object "com/example/leastwise/leastwise/core/AuthorizableType") }, accessFlags := 10, code := some k1c3 }
def k1c4 : Code := { maxStack := 4, maxLocals := 1, code := method_5_code, exceptionTable := #[], attributes := #[] }
def k1m4 : Method := { name := "full", desc := "(I)[C", sig := { parameters := [.int], returnType := some (.array .char) }, accessFlags := 10, code := some k1c4 }
def k1c5 : Code := { maxStack := 4, maxLocals := 1, code := method_6_code, exceptionTable := #[], attributes := #[] }
def k1m5 : Method := { name := "extended", desc := "(I)[C", sig := { parameters := [.int], returnType := some (.array .char) }, accessFlags := 10, code := some k1c5 }
def k1c6 : Code := { maxStack := 4, maxLocals := 2, code := method_7_code, exceptionTable := #[], attributes := #[] }
def k1m6 : Method := { name := "truncated", desc := "(IZ)[C", sig := { parameters := [.int, .boolean], returnType := some (.array .char) }, accessFlags := 10, code := some k1c6 }
/-- com/example/leastwise/leastwise/core/AuthorizableTypeOfPinLaw -/
def k1 : Class := { plain "com/example/leastwise/leastwise/core/AuthorizableTypeOfPinLaw" (some 0) with
  accessFlags := 49
  interfaces := #[]
  cf := some (fileOf pool1 17 #[] #[{ accessFlags := 1, nameIndex := 5, descriptorIndex := 6, attributes := #[] }, { accessFlags := 9, nameIndex := 64, descriptorIndex := 65, attributes := #[] }, { accessFlags := 10, nameIndex := 31, descriptorIndex := 32, attributes := #[] }, { accessFlags := 10, nameIndex := 40, descriptorIndex := 41, attributes := #[] }, { accessFlags := 10, nameIndex := 28, descriptorIndex := 21, attributes := #[] }, { accessFlags := 10, nameIndex := 20, descriptorIndex := 21, attributes := #[] }, { accessFlags := 10, nameIndex := 24, descriptorIndex := 25, attributes := #[] }] 49 2 #[] #[])
  fields := #[]
  methods := #[k1m0, k1m1, k1m2, k1m3, k1m4, k1m5, k1m6]
  instanceTypes := #[]
  staticTypes := #[]
  resolved := Array.replicate 69 none
  statics := none }

def pool2 : Array CpInfo := pool [(1, .class_ 2), (0, u "java/io/Serializable"), (0, .class_ 4), (0, u "java/lang/Object")] 2

/-- java/io/Serializable -/
def k2 : Class := { plain "java/io/Serializable" (some 0) with
  accessFlags := 1537
  interfaces := #[]
  cf := some (fileOf pool2 1 #[] #[] 1537 3 #[] #[])
  fields := #[]
  methods := #[]
  instanceTypes := #[]
  staticTypes := #[]
  resolved := Array.replicate 7 none
  statics := none }

def pool3 : Array CpInfo := pool [(1, .class_ 2), (0, u "java/lang/Comparable"), (0, .class_ 4), (0, u "java/lang/Object")] 7

/-- java/lang/Comparable -/
def k3 : Class := { plain "java/lang/Comparable" (some 0) with
  accessFlags := 1537
  interfaces := #[]
  cf := some (fileOf pool3 1 #[] #[] 1537 3 #[] #[])
  fields := #[]
  methods := #[]
  instanceTypes := #[]
  staticTypes := #[]
  resolved := Array.replicate 12 none
  statics := none }

def pool4 : Array CpInfo := pool [(2, .class_ 4), (1, u "java/lang/CharSequence"), (42, .class_ 48), (0, u "java/lang/CharSequence$1CodePointIterator"), (10, .class_ 60), (0, u "java/lang/CharSequence$1CharIterator"), (5, .class_ 67), (0, u "java/lang/Object")] 63

/-- java/lang/CharSequence -/
def k4 : Class := { plain "java/lang/CharSequence" (some 0) with
  accessFlags := 1537
  interfaces := #[]
  cf := some (fileOf pool4 2 #[.nestMembers #[47, 59]] #[] 1537 66 #[] #[])
  fields := #[]
  methods := #[]
  instanceTypes := #[]
  staticTypes := #[]
  resolved := Array.replicate 131 none
  statics := none }

def pool5 : Array CpInfo := pool [(1, .class_ 2), (0, u "java/lang/constant/Constable"), (0, .class_ 4), (0, u "java/lang/Object")] 6

/-- java/lang/constant/Constable -/
def k5 : Class := { plain "java/lang/constant/Constable" (some 0) with
  accessFlags := 1537
  interfaces := #[]
  cf := some (fileOf pool5 1 #[] #[] 1537 3 #[] #[])
  fields := #[]
  methods := #[]
  instanceTypes := #[]
  staticTypes := #[]
  resolved := Array.replicate 11 none
  statics := none }

def pool6 : Array CpInfo := pool [(1, .class_ 2), (0, u "java/lang/constant/ConstantDesc"), (0, .class_ 4), (0, u "java/lang/Object")] 32

/-- java/lang/constant/ConstantDesc -/
def k6 : Class := { plain "java/lang/constant/ConstantDesc" (some 0) with
  accessFlags := 1537
  interfaces := #[]
  cf := some (fileOf pool6 1 #[] #[] 1537 3 #[] #[])
  fields := #[]
  methods := #[]
  instanceTypes := #[]
  staticTypes := #[]
  resolved := Array.replicate 37 none
  statics := none }

def pool7 : Array CpInfo := pool [(1, .methodref 2 3), (0, .class_ 4), (0, .nameAndType 5 6), (0, u "java/lang/Object"), (0, u "<init>"), (0, u "()V"), (2, .fieldref 10 11), (0, .class_ 12), (0, .nameAndType 13 14), (0, u "java/lang/String"), (0, u "value"), (0, u "[B"), (0, .fieldref 10 16), (0, .nameAndType 17 18), (0, u "coder"), (0, u "B"), (2, u "hash"), (0, u "I"), (2, u "hashIsZero"), (0, u "Z"), (0, .methodref 10 28), (0, .nameAndType 5 29), (0, u "([CIILjava/lang/Void;)V"), (8, .fieldref 10 39), (0, .nameAndType 40 26), (0, u "COMPACT_STRINGS"), (1, .class_ 44), (1, u "java/lang/StringUTF16"), (0, u "compress"), (1, .methodref 42 48), (0, .nameAndType 49 50), (0, u "coderFromArrayLen"), (0, u "([BI)B"), (56, .class_ 109), (1, u "java/lang/StringLatin1"), (67, .methodref 42 178), (0, .nameAndType 45 179), (0, u "([CII)[B"), (361, .methodref 107 542), (0, .nameAndType 543 544), (0, u "equals"), (0, u "([B[B)Z"), (28, u "(Ljava/lang/Object;)Z"), (1, .class_ 576), (0, u "java/lang/CharSequence"), (22, u "CASE_INSENSITIVE_ORDER"), (0, u "Ljava/util/Comparator;"), (409, u "([C)V"), (90, u "serialPersistentFields"), (0, u "[Ljava/io/ObjectStreamField;"), (0, .class_ 1104), (0, u "java/lang/String$CaseInsensitiveComparator"), (1, .class_ 1107), (0, u "java/io/Serializable"), (0, .class_ 1109), (0, u "java/lang/Comparable"), (0, .class_ 1111), (0, u "java/lang/constant/Constable"), (0, .class_ 1113), (0, u "java/lang/constant/ConstantDesc"), (2, u "serialVersionUID"), (0, u "J"), (3, u "REPL"), (0, u "C"), (2, u "LATIN1"), (1, u "UTF16")] 323

def k7m0 : Method := { name := "<init>", desc := "()V", sig := { parameters := [], returnType := none }, accessFlags := 1, code := none }
def k7c1 : Code := { maxStack := 5, maxLocals := 2, code := jdk_42_method_3_code, exceptionTable := #[], attributes := #[] }
def k7m1 : Method := { name := "<init>", desc := "([C)V", sig := { parameters := [(.array .char)], returnType := none }, accessFlags := 1, code := some k7c1 }
def k7c2 : Code := { maxStack := 2, maxLocals := 3, code := jdk_42_method_66_code, exceptionTable := #[], attributes := #[] }
def k7m2 : Method := { name := "equals", desc := "(Ljava/lang/Object;)Z", sig := { parameters := [(.object "java/lang/Object")], returnType := some .boolean }, accessFlags := 1, code := some k7c2 }
def k7c3 : Code := { maxStack := 4, maxLocals := 6, code := jdk_42_method_149_code, exceptionTable := #[], attributes := #[] }
def k7m3 : Method := { name := "<init>", desc := "([CIILjava/lang/Void;)V", sig := { parameters := [(.array .char), .int, .int, (.object "java/lang/Void")], returnType := none }, accessFlags := 2, code := some k7c3 }
/-- java/lang/String -/
def k7 : Class := { plain "java/lang/String" (some 0) with
  accessFlags := 49
  interfaces := #[2, 3, 4, 5, 6]
  cf := some (fileOf pool7 10 #[.nestMembers #[1103]] #[{ accessFlags := 1, nameIndex := 5, descriptorIndex := 6, attributes := #[] }, { accessFlags := 1, nameIndex := 5, descriptorIndex := 1010, attributes := #[] }, { accessFlags := 1, nameIndex := 543, descriptorIndex := 573, attributes := #[] }, { accessFlags := 2, nameIndex := 5, descriptorIndex := 29, attributes := #[] }] 49 2 #[1106, 1108, 575, 1110, 1112] #[{ accessFlags := 18, nameIndex := 13, descriptorIndex := 14, attributes := #[] }, { accessFlags := 18, nameIndex := 17, descriptorIndex := 18, attributes := #[] }, { accessFlags := 2, nameIndex := 21, descriptorIndex := 22, attributes := #[] }, { accessFlags := 2, nameIndex := 25, descriptorIndex := 26, attributes := #[] }, { accessFlags := 26, nameIndex := 1116, descriptorIndex := 1117, attributes := #[] }, { accessFlags := 24, nameIndex := 40, descriptorIndex := 26, attributes := #[] }, { accessFlags := 26, nameIndex := 1101, descriptorIndex := 1102, attributes := #[] }, { accessFlags := 26, nameIndex := 1121, descriptorIndex := 1122, attributes := #[] }, { accessFlags := 25, nameIndex := 599, descriptorIndex := 600, attributes := #[] }, { accessFlags := 24, nameIndex := 1125, descriptorIndex := 18, attributes := #[] }, { accessFlags := 24, nameIndex := 1127, descriptorIndex := 18, attributes := #[] }])
  fields := #[{ name := "value", type := (.array .byte), accessFlags := 18, slot := 0, constantValue := 0 }, { name := "coder", type := .byte, accessFlags := 18, slot := 1, constantValue := 0 }, { name := "hash", type := .int, accessFlags := 2, slot := 2, constantValue := 0 }, { name := "hashIsZero", type := .boolean, accessFlags := 2, slot := 3, constantValue := 0 }, { name := "serialVersionUID", type := .long, accessFlags := 26, slot := 0, constantValue := 0 }, { name := "COMPACT_STRINGS", type := .boolean, accessFlags := 24, slot := 1, constantValue := 0 }, { name := "serialPersistentFields", type := (.array (.object "java/io/ObjectStreamField")), accessFlags := 26, slot := 2, constantValue := 0 }, { name := "REPL", type := .char, accessFlags := 26, slot := 3, constantValue := 0 }, { name := "CASE_INSENSITIVE_ORDER", type := (.object "java/util/Comparator"), accessFlags := 25, slot := 4, constantValue := 0 }, { name := "LATIN1", type := .byte, accessFlags := 24, slot := 5, constantValue := 0 }, { name := "UTF16", type := .byte, accessFlags := 24, slot := 6, constantValue := 0 }]
  methods := #[k7m0, k7m1, k7m2, k7m3]
  instanceTypes := #[(.array .byte), .byte, .int, .boolean]
  staticTypes := #[.long, .boolean, (.array (.object "java/io/ObjectStreamField")), .char, (.object "java/util/Comparator"), .byte, .byte]
  resolved := Array.replicate 1451 none
  statics := some 0 }

def pool8 : Array CpInfo := pool [(6, .class_ 8), (1, u "java/lang/Object"), (0, u "<init>"), (0, u "()V"), (1, .class_ 14), (1, u "java/lang/StringUTF16"), (31, u "$assertionsDisabled"), (0, u "Z"), (13, u "HI_BYTE_SHIFT"), (0, u "I"), (2, u "LO_BYTE_SHIFT"), (49, .methodref 12 116), (0, .nameAndType 117 118), (0, u "compress"), (0, u "([CI[BII)I"), (3, u "([CII)[B"), (138, u "coderFromArrayLen"), (0, u "([BI)B"), (106, .class_ 371), (1, u "java/lang/StringUTF16$LinesSpliterator"), (58, u "MAX_LENGTH"), (196, .class_ 628), (0, u "java/lang/StringUTF16$CodePointsSpliterator"), (0, .class_ 630), (0, u "java/lang/StringUTF16$CharsSpliterator")] 4

def k8m0 : Method := { name := "<init>", desc := "()V", sig := { parameters := [], returnType := none }, accessFlags := 0, code := none }
def k8c1 : Code := { maxStack := 2, maxLocals := 2, code := jdk_52_method_15_code, exceptionTable := #[], attributes := #[] }
def k8m1 : Method := { name := "coderFromArrayLen", desc := "([BI)B", sig := { parameters := [(.array .byte), .int], returnType := some .byte }, accessFlags := 8, code := some k8c1 }
def k8c2 : Code := { maxStack := 5, maxLocals := 6, code := jdk_52_method_16_code, exceptionTable := #[], attributes := #[] }
def k8m2 : Method := { name := "compress", desc := "([CII)[B", sig := { parameters := [(.array .char), .int, .int], returnType := some (.array .byte) }, accessFlags := 9, code := some k8c2 }
def k8c3 : Code := { maxStack := 3, maxLocals := 7, code := jdk_52_method_21_code, exceptionTable := #[], attributes := #[] }
def k8m3 : Method := { name := "compress", desc := "([CI[BII)I", sig := { parameters := [(.array .char), .int, (.array .byte), .int, .int], returnType := some .int }, accessFlags := 9, code := some k8c3 }
/-- java/lang/StringUTF16 -/
def k8 : Class := { plain "java/lang/StringUTF16" (some 0) with
  accessFlags := 48
  interfaces := #[]
  cf := some (fileOf pool8 12 #[.nestMembers #[627, 629, 369]] #[{ accessFlags := 0, nameIndex := 9, descriptorIndex := 10, attributes := #[] }, { accessFlags := 8, nameIndex := 261, descriptorIndex := 262, attributes := #[] }, { accessFlags := 9, nameIndex := 117, descriptorIndex := 122, attributes := #[] }, { accessFlags := 9, nameIndex := 117, descriptorIndex := 118, attributes := #[] }] 48 6 #[] #[{ accessFlags := 26, nameIndex := 61, descriptorIndex := 62, attributes := #[] }, { accessFlags := 26, nameIndex := 65, descriptorIndex := 62, attributes := #[] }, { accessFlags := 24, nameIndex := 430, descriptorIndex := 62, attributes := #[] }, { accessFlags := 4120, nameIndex := 46, descriptorIndex := 47, attributes := #[] }])
  fields := #[{ name := "HI_BYTE_SHIFT", type := .int, accessFlags := 26, slot := 0, constantValue := 0 }, { name := "LO_BYTE_SHIFT", type := .int, accessFlags := 26, slot := 1, constantValue := 0 }, { name := "MAX_LENGTH", type := .int, accessFlags := 24, slot := 2, constantValue := 0 }, { name := "$assertionsDisabled", type := .boolean, accessFlags := 4120, slot := 3, constantValue := 0 }]
  methods := #[k8m0, k8m1, k8m2, k8m3]
  instanceTypes := #[]
  staticTypes := #[.int, .int, .int, .boolean]
  resolved := Array.replicate 635 none
  statics := none }

def pool9 : Array CpInfo := pool [(4, .class_ 6), (1, u "java/lang/Object"), (0, u "<init>"), (0, u "()V"), (5, .class_ 16), (1, u "java/lang/StringLatin1"), (104, u "$assertionsDisabled"), (0, u "Z"), (98, .class_ 223), (1, u "java/lang/StringLatin1$LinesSpliterator"), (57, u "equals"), (0, u "([B[B)Z"), (107, .class_ 391), (0, u "java/lang/StringLatin1$CharsSpliterator")] 3

def k9m0 : Method := { name := "<init>", desc := "()V", sig := { parameters := [], returnType := none }, accessFlags := 0, code := none }
def k9c1 : Code := { maxStack := 3, maxLocals := 3, code := jdk_43_method_13_code, exceptionTable := #[], attributes := #[] }
def k9m1 : Method := { name := "equals", desc := "([B[B)Z", sig := { parameters := [(.array .byte), (.array .byte)], returnType := some .boolean }, accessFlags := 9, code := some k9c1 }
/-- java/lang/StringLatin1 -/
def k9 : Class := { plain "java/lang/StringLatin1" (some 0) with
  accessFlags := 48
  interfaces := #[]
  cf := some (fileOf pool9 14 #[.nestMembers #[390, 221]] #[{ accessFlags := 0, nameIndex := 7, descriptorIndex := 8, attributes := #[] }, { accessFlags := 9, nameIndex := 281, descriptorIndex := 282, attributes := #[] }] 48 4 #[] #[{ accessFlags := 4120, nameIndex := 121, descriptorIndex := 122, attributes := #[] }])
  fields := #[{ name := "$assertionsDisabled", type := .boolean, accessFlags := 4120, slot := 0, constantValue := 0 }]
  methods := #[k9m0, k9m1]
  instanceTypes := #[]
  staticTypes := #[.boolean]
  resolved := Array.replicate 395 none
  statics := none }

def pool10 : Array CpInfo := pool [(2, .class_ 4), (1, u "java/lang/Enum"), (0, u "name"), (0, u "Ljava/lang/String;"), (2, u "ordinal"), (0, u "I"), (1, .class_ 14), (1, u "java/lang/Object"), (4, u "hash"), (86, .class_ 108), (1, u "java/lang/Enum$EnumDesc"), (2, .class_ 112), (0, u "java/lang/constant/Constable"), (0, .class_ 114), (0, u "java/lang/Comparable"), (0, .class_ 116), (0, u "java/io/Serializable")] 87

/-- java/lang/Enum -/
def k10 : Class := { plain "java/lang/Enum" (some 0) with
  accessFlags := 1057
  interfaces := #[5, 3, 2]
  cf := some (fileOf pool10 2 #[.nestMembers #[106]] #[] 1057 12 #[111, 113, 115] #[{ accessFlags := 18, nameIndex := 5, descriptorIndex := 6, attributes := #[] }, { accessFlags := 18, nameIndex := 9, descriptorIndex := 10, attributes := #[] }, { accessFlags := 2, nameIndex := 19, descriptorIndex := 10, attributes := #[] }])
  fields := #[{ name := "name", type := (.object "java/lang/String"), accessFlags := 18, slot := 0, constantValue := 0 }, { name := "ordinal", type := .int, accessFlags := 18, slot := 1, constantValue := 0 }, { name := "hash", type := .int, accessFlags := 2, slot := 2, constantValue := 0 }]
  methods := #[]
  instanceTypes := #[(.object "java/lang/String"), .int, .int]
  staticTypes := #[]
  resolved := Array.replicate 204 none
  statics := none }

def pool11 : Array CpInfo := pool [(1, .class_ 2), (0, u "com/example/leastwise/leastwise/core/AuthorizableType"), (2, u "SYSTEM_USER"), (0, u "Lcom/example/leastwise/leastwise/core/AuthorizableType;"), (2, u "USER"), (2, u "GROUP"), (0, .fieldref 1 14), (0, .nameAndType 15 16), (0, u "$VALUES"), (0, u "[Lcom/example/leastwise/leastwise/core/AuthorizableType;"), (0, .methodref 18 19), (0, .class_ 16), (0, .nameAndType 20 21), (0, u "clone"), (0, u "()Ljava/lang/Object;"), (1, .class_ 25), (1, u "java/lang/Enum"), (6, .fieldref 1 33), (0, .nameAndType 34 35), (0, u "primaryType"), (0, u "Ljava/lang/String;"), (2, u "noun"), (2, u "kind"), (0, .methodref 1 43), (0, .nameAndType 44 45), (0, u "values"), (0, u "()[Lcom/example/leastwise/leastwise/core/AuthorizableType;"), (0, .methodref 47 48), (0, .class_ 49), (0, .nameAndType 50 51), (0, u "java/lang/String"), (0, u "equals"), (0, u "(Ljava/lang/Object;)Z"), (23, u "(Ljava/lang/String;)Lcom/example/leastwise/leastwise/core/AuthorizableType;"), (4, u "of")] 6

def k11c0 : Code := { maxStack := 1, maxLocals := 0, code := prog_29_method_1_code, exceptionTable := #[], attributes := #[] }
def k11m0 : Method := { name := "values", desc := "()[Lcom/example/leastwise/leastwise/core/AuthorizableType;", sig := { parameters := [], returnType := some (.array (.object "com/example/leastwise/leastwise/core/AuthorizableType")) }, accessFlags := 9, code := some k11c0 }
def k11c1 : Code := { maxStack := 2, maxLocals := 5, code := prog_29_method_7_code, exceptionTable := #[], attributes := #[] }
def k11m1 : Method := { name := "of", desc := "(Ljava/lang/String;)Lcom/example/leastwise/leastwise/core/AuthorizableType;", sig := { parameters := [(.object "java/lang/String")], returnType := some (.object "com/example/leastwise/leastwise/core/AuthorizableType") }, accessFlags := 8, code := some k11c1 }
/-- com/example/leastwise/leastwise/core/AuthorizableType -/
def k11 : Class := { plain "com/example/leastwise/leastwise/core/AuthorizableType" (some 10) with
  accessFlags := 16432
  interfaces := #[]
  cf := some (fileOf pool11 1 #[] #[{ accessFlags := 9, nameIndex := 44, descriptorIndex := 45, attributes := #[] }, { accessFlags := 8, nameIndex := 80, descriptorIndex := 75, attributes := #[] }] 16432 23 #[] #[{ accessFlags := 16409, nameIndex := 5, descriptorIndex := 6, attributes := #[] }, { accessFlags := 16409, nameIndex := 9, descriptorIndex := 6, attributes := #[] }, { accessFlags := 16409, nameIndex := 12, descriptorIndex := 6, attributes := #[] }, { accessFlags := 18, nameIndex := 34, descriptorIndex := 35, attributes := #[] }, { accessFlags := 18, nameIndex := 38, descriptorIndex := 35, attributes := #[] }, { accessFlags := 18, nameIndex := 41, descriptorIndex := 35, attributes := #[] }, { accessFlags := 4122, nameIndex := 15, descriptorIndex := 16, attributes := #[] }])
  fields := #[{ name := "SYSTEM_USER", type := (.object "com/example/leastwise/leastwise/core/AuthorizableType"), accessFlags := 16409, slot := 0, constantValue := 0 }, { name := "USER", type := (.object "com/example/leastwise/leastwise/core/AuthorizableType"), accessFlags := 16409, slot := 1, constantValue := 0 }, { name := "GROUP", type := (.object "com/example/leastwise/leastwise/core/AuthorizableType"), accessFlags := 16409, slot := 2, constantValue := 0 }, { name := "primaryType", type := (.object "java/lang/String"), accessFlags := 18, slot := 3, constantValue := 0 }, { name := "noun", type := (.object "java/lang/String"), accessFlags := 18, slot := 4, constantValue := 0 }, { name := "kind", type := (.object "java/lang/String"), accessFlags := 18, slot := 5, constantValue := 0 }, { name := "$VALUES", type := (.array (.object "com/example/leastwise/leastwise/core/AuthorizableType")), accessFlags := 4122, slot := 3, constantValue := 0 }]
  methods := #[k11m0, k11m1]
  instanceTypes := #[(.object "java/lang/String"), .int, .int, (.object "java/lang/String"), (.object "java/lang/String"), (.object "java/lang/String")]
  staticTypes := #[(.object "com/example/leastwise/leastwise/core/AuthorizableType"), (.object "com/example/leastwise/leastwise/core/AuthorizableType"), (.object "com/example/leastwise/leastwise/core/AuthorizableType"), (.array (.object "com/example/leastwise/leastwise/core/AuthorizableType"))]
  resolved := Array.replicate 87 none
  statics := some 1 }

def pool12 : Array CpInfo := pool [(1, .class_ 2), (0, u "java/lang/Cloneable"), (0, .class_ 4), (0, u "java/lang/Object")] 2

/-- java/lang/Cloneable -/
def k12 : Class := { plain "java/lang/Cloneable" (some 0) with
  accessFlags := 1537
  interfaces := #[]
  cf := some (fileOf pool12 1 #[] #[] 1537 3 #[] #[])
  fields := #[]
  methods := #[]
  instanceTypes := #[]
  staticTypes := #[]
  resolved := Array.replicate 7 none
  statics := none }

def pool13 : Array CpInfo := pool [(2, .class_ 4), (1, u "java/lang/Object"), (0, u "<init>"), (0, u "()V"), (17, .class_ 26), (1, u "jdk/internal/util/Preconditions"), (28, .class_ 56), (0, u "jdk/internal/util/Preconditions$4"), (57, .class_ 115), (0, u "jdk/internal/util/Preconditions$1"), (7, u "SIOOBE_FORMATTER"), (0, u "Ljava/util/function/BiFunction;"), (0, .class_ 126), (0, u "jdk/internal/util/Preconditions$2"), (3, u "AIOOBE_FORMATTER"), (0, .class_ 132), (0, u "jdk/internal/util/Preconditions$3"), (3, u "IOOBE_FORMATTER")] 57

def k13m0 : Method := { name := "<init>", desc := "()V", sig := { parameters := [], returnType := none }, accessFlags := 1, code := none }
/-- jdk/internal/util/Preconditions -/
def k13 : Class := { plain "jdk/internal/util/Preconditions" (some 0) with
  accessFlags := 33
  interfaces := #[]
  cf := some (fileOf pool13 24 #[.nestMembers #[55, 131, 125, 114]] #[{ accessFlags := 1, nameIndex := 5, descriptorIndex := 6, attributes := #[] }] 33 2 #[] #[{ accessFlags := 25, nameIndex := 123, descriptorIndex := 124, attributes := #[] }, { accessFlags := 25, nameIndex := 130, descriptorIndex := 124, attributes := #[] }, { accessFlags := 25, nameIndex := 136, descriptorIndex := 124, attributes := #[] }])
  fields := #[{ name := "SIOOBE_FORMATTER", type := (.object "java/util/function/BiFunction"), accessFlags := 25, slot := 0, constantValue := 0 }, { name := "AIOOBE_FORMATTER", type := (.object "java/util/function/BiFunction"), accessFlags := 25, slot := 1, constantValue := 0 }, { name := "IOOBE_FORMATTER", type := (.object "java/util/function/BiFunction"), accessFlags := 25, slot := 2, constantValue := 0 }]
  methods := #[k13m0]
  instanceTypes := #[]
  staticTypes := #[(.object "java/util/function/BiFunction"), (.object "java/util/function/BiFunction"), (.object "java/util/function/BiFunction")]
  resolved := Array.replicate 194 none
  statics := some 2 }

def pool14 : Array CpInfo := pool [(9, u "<init>"), (6, .class_ 18), (1, u "java/lang/Object"), (0, u "()V"), (1, .class_ 23), (1, u "jdk/internal/util/ArraysSupport"), (0, u "LOG2_ARRAY_LONG_INDEX_SCALE"), (0, u "I"), (2, u "U"), (0, u "Ljdk/internal/misc/Unsafe;"), (8, u "BIG_ENDIAN"), (0, u "Z"), (8, u "LOG2_BYTE_BIT_SIZE"), (4, u "LOG2_ARRAY_INT_INDEX_SCALE"), (54, u "JLA"), (0, u "Ljdk/internal/access/JavaLangAccess;"), (11, u "LOG2_ARRAY_BOOLEAN_INDEX_SCALE"), (9, u "LOG2_ARRAY_BYTE_INDEX_SCALE"), (5, u "LOG2_ARRAY_CHAR_INDEX_SCALE"), (5, u "LOG2_ARRAY_SHORT_INDEX_SCALE"), (18, u "LOG2_ARRAY_FLOAT_INDEX_SCALE"), (24, u "LOG2_ARRAY_DOUBLE_INDEX_SCALE"), (89, u "T_BOOLEAN"), (2, u "T_CHAR"), (1, u "T_FLOAT"), (1, u "T_DOUBLE"), (1, u "T_BYTE"), (1, u "T_SHORT"), (1, u "T_INT"), (1, u "T_LONG"), (1, u "SOFT_MAX_ARRAY_LENGTH")] 83

def k14m0 : Method := { name := "<init>", desc := "()V", sig := { parameters := [], returnType := none }, accessFlags := 2, code := none }
/-- jdk/internal/util/ArraysSupport -/
def k14 : Class := { plain "jdk/internal/util/ArraysSupport" (some 0) with
  accessFlags := 33
  interfaces := #[]
  cf := some (fileOf pool14 21 #[] #[{ accessFlags := 2, nameIndex := 9, descriptorIndex := 19, attributes := #[] }] 33 16 #[] #[{ accessFlags := 24, nameIndex := 28, descriptorIndex := 29, attributes := #[] }, { accessFlags := 26, nameIndex := 38, descriptorIndex := 39, attributes := #[] }, { accessFlags := 25, nameIndex := 121, descriptorIndex := 25, attributes := #[] }, { accessFlags := 25, nameIndex := 131, descriptorIndex := 25, attributes := #[] }, { accessFlags := 25, nameIndex := 137, descriptorIndex := 25, attributes := #[] }, { accessFlags := 25, nameIndex := 143, descriptorIndex := 25, attributes := #[] }, { accessFlags := 25, nameIndex := 53, descriptorIndex := 25, attributes := #[] }, { accessFlags := 25, nameIndex := 24, descriptorIndex := 25, attributes := #[] }, { accessFlags := 25, nameIndex := 162, descriptorIndex := 25, attributes := #[] }, { accessFlags := 25, nameIndex := 187, descriptorIndex := 25, attributes := #[] }, { accessFlags := 26, nameIndex := 48, descriptorIndex := 25, attributes := #[] }, { accessFlags := 25, nameIndex := 277, descriptorIndex := 25, attributes := #[] }, { accessFlags := 25, nameIndex := 280, descriptorIndex := 25, attributes := #[] }, { accessFlags := 25, nameIndex := 282, descriptorIndex := 25, attributes := #[] }, { accessFlags := 25, nameIndex := 284, descriptorIndex := 25, attributes := #[] }, { accessFlags := 25, nameIndex := 286, descriptorIndex := 25, attributes := #[] }, { accessFlags := 25, nameIndex := 288, descriptorIndex := 25, attributes := #[] }, { accessFlags := 25, nameIndex := 290, descriptorIndex := 25, attributes := #[] }, { accessFlags := 25, nameIndex := 292, descriptorIndex := 25, attributes := #[] }, { accessFlags := 26, nameIndex := 108, descriptorIndex := 109, attributes := #[] }, { accessFlags := 25, nameIndex := 294, descriptorIndex := 25, attributes := #[] }])
  fields := #[{ name := "U", type := (.object "jdk/internal/misc/Unsafe"), accessFlags := 24, slot := 0, constantValue := 0 }, { name := "BIG_ENDIAN", type := .boolean, accessFlags := 26, slot := 1, constantValue := 0 }, { name := "LOG2_ARRAY_BOOLEAN_INDEX_SCALE", type := .int, accessFlags := 25, slot := 2, constantValue := 0 }, { name := "LOG2_ARRAY_BYTE_INDEX_SCALE", type := .int, accessFlags := 25, slot := 3, constantValue := 0 }, { name := "LOG2_ARRAY_CHAR_INDEX_SCALE", type := .int, accessFlags := 25, slot := 4, constantValue := 0 }, { name := "LOG2_ARRAY_SHORT_INDEX_SCALE", type := .int, accessFlags := 25, slot := 5, constantValue := 0 }, { name := "LOG2_ARRAY_INT_INDEX_SCALE", type := .int, accessFlags := 25, slot := 6, constantValue := 0 }, { name := "LOG2_ARRAY_LONG_INDEX_SCALE", type := .int, accessFlags := 25, slot := 7, constantValue := 0 }, { name := "LOG2_ARRAY_FLOAT_INDEX_SCALE", type := .int, accessFlags := 25, slot := 8, constantValue := 0 }, { name := "LOG2_ARRAY_DOUBLE_INDEX_SCALE", type := .int, accessFlags := 25, slot := 9, constantValue := 0 }, { name := "LOG2_BYTE_BIT_SIZE", type := .int, accessFlags := 26, slot := 10, constantValue := 0 }, { name := "T_BOOLEAN", type := .int, accessFlags := 25, slot := 11, constantValue := 0 }, { name := "T_CHAR", type := .int, accessFlags := 25, slot := 12, constantValue := 0 }, { name := "T_FLOAT", type := .int, accessFlags := 25, slot := 13, constantValue := 0 }, { name := "T_DOUBLE", type := .int, accessFlags := 25, slot := 14, constantValue := 0 }, { name := "T_BYTE", type := .int, accessFlags := 25, slot := 15, constantValue := 0 }, { name := "T_SHORT", type := .int, accessFlags := 25, slot := 16, constantValue := 0 }, { name := "T_INT", type := .int, accessFlags := 25, slot := 17, constantValue := 0 }, { name := "T_LONG", type := .int, accessFlags := 25, slot := 18, constantValue := 0 }, { name := "JLA", type := (.object "jdk/internal/access/JavaLangAccess"), accessFlags := 26, slot := 19, constantValue := 0 }, { name := "SOFT_MAX_ARRAY_LENGTH", type := .int, accessFlags := 25, slot := 20, constantValue := 0 }]
  methods := #[k14m0]
  instanceTypes := #[]
  staticTypes := #[(.object "jdk/internal/misc/Unsafe"), .boolean, .int, .int, .int, .int, .int, .int, .int, .int, .int, .int, .int, .int, .int, .int, .int, .int, .int, (.object "jdk/internal/access/JavaLangAccess"), .int]
  resolved := Array.replicate 378 none
  statics := none }

/-- the primitive byte -/
def k15 : Class := { plain "byte" none with kind := .primitive 'B', accessFlags := 0x411 }
/-- [B -/
def k16 : Class := { plain "[B" (some 0) with kind := .array 15 .byte, interfaces := #[12, 2], accessFlags := 1041 }

/-- the primitive char -/
def k17 : Class := { plain "char" none with kind := .primitive 'C', accessFlags := 0x411 }
/-- [C -/
def k18 : Class := { plain "[C" (some 0) with kind := .array 17 .char, interfaces := #[12, 2], accessFlags := 1041 }

/-- the primitive int -/
def k19 : Class := { plain "int" none with kind := .primitive 'I', accessFlags := 0x411 }
/-- [I -/
def k20 : Class := { plain "[I" (some 0) with kind := .array 19 .int, interfaces := #[12, 2], accessFlags := 1041 }

/-- [Lcom/example/leastwise/leastwise/core/AuthorizableType; -/
def k21 : Class := { plain "[Lcom/example/leastwise/leastwise/core/AuthorizableType;" (some 0) with kind := .array 11 (.object "com/example/leastwise/leastwise/core/AuthorizableType"), interfaces := #[12, 2], accessFlags := 1041 }

def heap : Heap := #[{ cls := 7, slots := #[.long 0, .int 1, .null, .int 0, .null, .int 0, .int 0], vm := .statics 7 },
  { cls := 11, slots := #[.ref 4, .ref 5, .ref 6, .ref 3], vm := .statics 11 },
  { cls := 13, slots := #[.null, .null, .null], vm := .statics 13 },
  { cls := 21, slots := #[.ref 4, .ref 5, .ref 6], vm := .none },
  { cls := 11, slots := #[.null, .int 0, .int 0, .ref 7, .null, .null], vm := .none },
  { cls := 11, slots := #[.null, .int 1, .int 0, .ref 8, .null, .null], vm := .none },
  { cls := 11, slots := #[.null, .int 2, .int 0, .ref 9, .null, .null], vm := .none },
  { cls := 7, slots := #[.ref 10, .int 0, .int 0, .int 0], vm := .none },
  { cls := 7, slots := #[.ref 11, .int 0, .int 0, .int 0], vm := .none },
  { cls := 7, slots := #[.ref 12, .int 0, .int 0, .int 0], vm := .none },
  { cls := 16, slots := #[.int 114, .int 101, .int 112, .int 58, .int 83, .int 121, .int 115, .int 116, .int 101, .int 109, .int 85, .int 115, .int 101, .int 114], vm := .none },
  { cls := 16, slots := #[.int 114, .int 101, .int 112, .int 58, .int 85, .int 115, .int 101, .int 114], vm := .none },
  { cls := 16, slots := #[.int 114, .int 101, .int 112, .int 58, .int 71, .int 114, .int 111, .int 117, .int 112], vm := .none }]
def classes : Array Class := #[k0, k1, k2, k3, k4, k5, k6, k7, k8, k9, k10, k11, k12, k13, k14, k15, k16, k17, k18, k19, k20, k21]
def interned : List (Array UInt16 × Addr) := []
def slotsUsed : Nat := 78
def theMethod : MethodId := ⟨1, 1⟩
def args0 : Array Value := #[.int 5, .int 7, .int 5, .int 7, .int 5, .int 7]
def aboutOver (below : List Frame) : State where
  vm := { classes := classes, interned := interned.toArray }
  heap := heap
  slotsUsed := slotsUsed
  threads := #[{ frames := .invoking theMethod args0 :: below }]
def below0 : List Frame := [.native { method := ⟨0, 0⟩, args := #[] }]
def about1 : State := aboutOver below0
def p0 : Program := .bare "" "" ""
def e0 : Env := launch0.env 0 0 0
theorem w_frames : about1.frames = Frame.invoking theMethod args0 :: below0 := rfl
set_option maxRecDepth 65536 in
theorem w_args : argsFit about1.vm theMethod args0 = true := by decide +kernel
set_option maxRecDepth 65536 in
theorem w_heap : heapFits about1 = true := by decide +kernel
set_option maxRecDepth 65536 in
theorem w_runnable : about1.curStatus? = some .runnable := by decide +kernel
set_option maxRecDepth 65536 in
theorem w_alone : about1.alone = true := by decide +kernel
set_option maxRecDepth 65536 in
theorem w_named : about1.methodNamed? x = some theMethod := by decide +kernel
set_option maxRecDepth 65536 in
theorem w_hears : about1.hears theMethod below0 = true := by decide +kernel
set_option maxRecDepth 65536 in
theorem w_ripe : about1.ripe theMethod args0 below0 = true := by decide +kernel
theorem w_running : about1.status = .running := rfl
set_option maxRecDepth 65536 in
theorem w_room : about1.hasRoom e0.platform room_1 = true :=
  launch0.hasRoom_least _ room_1 (by decide +kernel) (by decide +kernel) (by decide +kernel) (by decide +kernel) (by decide +kernel) (by decide +kernel)
theorem allAtoms_all (ts : List Jvm.Cond) (a : Array Jvm.Value) (st : Jvm.State) : (allAtoms ts).before a st = ts.all (fun c => c.before a st) := by
  induction ts with
  | nil => rfl
  | cons c t ih =>
    show (Jvm.Cond.and c (allAtoms t)).before a st = _
    rw [Jvm.Cond.before_and, ih, List.all_cons]
def words1 : List Jvm.Cond := Jvm.Cond.code x code maxLocals ret :: tables_1
/-- a 'code' word, met by the world's own term for the bytes: nothing is compared byte by byte -/
theorem code_word {y : MethodName} {bytes : ByteArray} {mx : Nat} {rt : Option FieldType} {a : Array Value} {s : State} {m : MethodId} {meth : Method} {c : Code} (h1 : s.methodNamed? y = some m) (h2 : s.vm.method? m = some meth) (h3 : meth.code = some c) (h4 : c.code = bytes)
    (h5 : (c.maxLocals == mx && c.exceptionTable.isEmpty && decide (c.maxStack ≤ mostOperands) && decide (meth.sig.returnType = rt) && !meth.locks && decide (parseMethodDescriptor y.desc = some meth.sig)) = true) : (Jvm.Cond.code y bytes mx rt).before a s = true := by
  simp only [Bool.and_eq_true, beq_iff_eq, Bool.not_eq_true', decide_eq_true_eq] at h5
  obtain ⟨⟨⟨⟨⟨g1, g2⟩, g3⟩, g4⟩, g5⟩, g6⟩ := h5
  simp [Cond.before, Cond.holds, Cond.value, h1, h2, h3, h4, g1, g2, g3, g4, g5, g6]
def isCode : Jvm.Cond → Bool
  | .code _ _ _ _ => true
  | _ => false
theorem all_split {L : List Jvm.Cond} {P : Jvm.Cond → Bool} (h1 : L.all (fun c => isCode c || P c) = true) (h2 : ∀ c ∈ L.filter isCode, P c = true) : L.all P = true := by
  refine List.all_eq_true.mpr fun c hc => ?_
  have h := List.all_eq_true.mp h1 c hc
  rcases Bool.eq_false_or_eq_true (isCode c) with hi | hi
  · exact h2 c (List.mem_filter.mpr ⟨hc, hi⟩)
  · simpa [hi] using h
set_option maxRecDepth 65536 in
theorem w_c0 : (Jvm.Cond.code x code maxLocals ret).before args0 about1 = true := code_word (m := ⟨1, 1⟩) (meth := k1m1) (c := k1c1) (by decide +kernel) rfl rfl rfl (by decide +kernel)
set_option maxRecDepth 65536 in
theorem w_c1 : (Jvm.Cond.code ({ cls := "com/example/leastwise/leastwise/core/AuthorizableTypeOfPinLaw", name := "truncated", desc := "(IZ)[C" } : Jvm.MethodName) method_7_code (2 : Nat) (Option.some (Jvm.ClassFile.FieldType.array Jvm.ClassFile.FieldType.char))).before args0 about1 = true := code_word (m := ⟨1, 6⟩) (meth := k1m6) (c := k1c6) (by decide +kernel) rfl rfl rfl (by decide +kernel)
set_option maxRecDepth 65536 in
theorem w_c2 : (Jvm.Cond.code ({ cls := "java/lang/String", name := "<init>", desc := "([C)V" } : Jvm.MethodName) jdk_42_method_3_code (2 : Nat) (Option.none : Option Jvm.ClassFile.FieldType)).before args0 about1 = true := code_word (m := ⟨7, 1⟩) (meth := k7m1) (c := k7c1) (by decide +kernel) rfl rfl rfl (by decide +kernel)
set_option maxRecDepth 65536 in
theorem w_c3 : (Jvm.Cond.code ({ cls := "java/lang/String", name := "<init>", desc := "([CIILjava/lang/Void;)V" } : Jvm.MethodName) jdk_42_method_149_code (6 : Nat) (Option.none : Option Jvm.ClassFile.FieldType)).before args0 about1 = true := code_word (m := ⟨7, 3⟩) (meth := k7m3) (c := k7c3) (by decide +kernel) rfl rfl rfl (by decide +kernel)
set_option maxRecDepth 65536 in
theorem w_c4 : (Jvm.Cond.code ({ cls := "java/lang/Object", name := "<init>", desc := "()V" } : Jvm.MethodName) object_method_1_code (1 : Nat) (Option.none : Option Jvm.ClassFile.FieldType)).before args0 about1 = true := code_word (m := ⟨0, 0⟩) (meth := k0m0) (c := k0c0) (by decide +kernel) rfl rfl rfl (by decide +kernel)
set_option maxRecDepth 65536 in
theorem w_c5 : (Jvm.Cond.code ({ cls := "java/lang/StringUTF16", name := "compress", desc := "([CII)[B" } : Jvm.MethodName) jdk_52_method_16_code (6 : Nat) (Option.some (Jvm.ClassFile.FieldType.array Jvm.ClassFile.FieldType.byte))).before args0 about1 = true := code_word (m := ⟨8, 2⟩) (meth := k8m2) (c := k8c2) (by decide +kernel) rfl rfl rfl (by decide +kernel)
set_option maxRecDepth 65536 in
theorem w_c6 : (Jvm.Cond.code ({ cls := "java/lang/StringUTF16", name := "compress", desc := "([CI[BII)I" } : Jvm.MethodName) jdk_52_method_21_code (7 : Nat) (Option.some Jvm.ClassFile.FieldType.int)).before args0 about1 = true := code_word (m := ⟨8, 3⟩) (meth := k8m3) (c := k8c3) (by decide +kernel) rfl rfl rfl (by decide +kernel)
set_option maxRecDepth 65536 in
theorem w_c7 : (Jvm.Cond.code ({ cls := "java/lang/StringUTF16", name := "coderFromArrayLen", desc := "([BI)B" } : Jvm.MethodName) jdk_52_method_15_code (2 : Nat) (Option.some Jvm.ClassFile.FieldType.byte)).before args0 about1 = true := code_word (m := ⟨8, 1⟩) (meth := k8m1) (c := k8c1) (by decide +kernel) rfl rfl rfl (by decide +kernel)
set_option maxRecDepth 65536 in
theorem w_c8 : (Jvm.Cond.code ({ cls := "com/example/leastwise/leastwise/core/AuthorizableTypeOfPinLaw", name := "reference", desc := "(Ljava/lang/String;)Lcom/example/leastwise/leastwise/core/AuthorizableType;" } : Jvm.MethodName) method_3_code (1 : Nat) (Option.some (Jvm.ClassFile.FieldType.object "com/example/leastwise/leastwise/core/AuthorizableType"))).before args0 about1 = true := code_word (m := ⟨1, 2⟩) (meth := k1m2) (c := k1c2) (by decide +kernel) rfl rfl rfl (by decide +kernel)
set_option maxRecDepth 65536 in
theorem w_c9 : (Jvm.Cond.code ({ cls := "java/lang/String", name := "equals", desc := "(Ljava/lang/Object;)Z" } : Jvm.MethodName) jdk_42_method_66_code (3 : Nat) (Option.some Jvm.ClassFile.FieldType.boolean)).before args0 about1 = true := code_word (m := ⟨7, 2⟩) (meth := k7m2) (c := k7c2) (by decide +kernel) rfl rfl rfl (by decide +kernel)
set_option maxRecDepth 65536 in
theorem w_c10 : (Jvm.Cond.code ({ cls := "java/lang/StringLatin1", name := "equals", desc := "([B[B)Z" } : Jvm.MethodName) jdk_43_method_13_code (3 : Nat) (Option.some Jvm.ClassFile.FieldType.boolean)).before args0 about1 = true := code_word (m := ⟨9, 1⟩) (meth := k9m1) (c := k9c1) (by decide +kernel) rfl rfl rfl (by decide +kernel)
set_option maxRecDepth 65536 in
theorem w_c11 : (Jvm.Cond.code ({ cls := "com/example/leastwise/leastwise/core/AuthorizableType", name := "of", desc := "(Ljava/lang/String;)Lcom/example/leastwise/leastwise/core/AuthorizableType;" } : Jvm.MethodName) prog_29_method_7_code (5 : Nat) (Option.some (Jvm.ClassFile.FieldType.object "com/example/leastwise/leastwise/core/AuthorizableType"))).before args0 about1 = true := code_word (m := ⟨11, 1⟩) (meth := k11m1) (c := k11c1) (by decide +kernel) rfl rfl rfl (by decide +kernel)
set_option maxRecDepth 65536 in
theorem w_c12 : (Jvm.Cond.code ({ cls := "com/example/leastwise/leastwise/core/AuthorizableType", name := "values", desc := "()[Lcom/example/leastwise/leastwise/core/AuthorizableType;" } : Jvm.MethodName) prog_29_method_1_code (0 : Nat) (Option.some (Jvm.ClassFile.FieldType.array (Jvm.ClassFile.FieldType.object "com/example/leastwise/leastwise/core/AuthorizableType")))).before args0 about1 = true := code_word (m := ⟨11, 0⟩) (meth := k11m0) (c := k11c0) (by decide +kernel) rfl rfl rfl (by decide +kernel)
set_option maxRecDepth 65536 in
theorem w_c13 : (Jvm.Cond.code ({ cls := "com/example/leastwise/leastwise/core/AuthorizableTypeOfPinLaw", name := "extended", desc := "(I)[C" } : Jvm.MethodName) method_6_code (1 : Nat) (Option.some (Jvm.ClassFile.FieldType.array Jvm.ClassFile.FieldType.char))).before args0 about1 = true := code_word (m := ⟨1, 5⟩) (meth := k1m5) (c := k1c5) (by decide +kernel) rfl rfl rfl (by decide +kernel)
set_option maxRecDepth 65536 in
theorem w_c14 : (Jvm.Cond.code ({ cls := "com/example/leastwise/leastwise/core/AuthorizableTypeOfPinLaw", name := "full", desc := "(I)[C" } : Jvm.MethodName) method_5_code (1 : Nat) (Option.some (Jvm.ClassFile.FieldType.array Jvm.ClassFile.FieldType.char))).before args0 about1 = true := code_word (m := ⟨1, 4⟩) (meth := k1m4) (c := k1c4) (by decide +kernel) rfl rfl rfl (by decide +kernel)
set_option maxRecDepth 65536 in
theorem w_c15 : (Jvm.Cond.code ({ cls := "com/example/leastwise/leastwise/core/AuthorizableTypeOfPinLaw", name := "byIndex", desc := "(I)Lcom/example/leastwise/leastwise/core/AuthorizableType;" } : Jvm.MethodName) method_4_code (1 : Nat) (Option.some (Jvm.ClassFile.FieldType.object "com/example/leastwise/leastwise/core/AuthorizableType"))).before args0 about1 = true := code_word (m := ⟨1, 3⟩) (meth := k1m3) (c := k1c3) (by decide +kernel) rfl rfl rfl (by decide +kernel)
def codes1 : List Jvm.Cond := [Jvm.Cond.code x code maxLocals ret, Jvm.Cond.code ({ cls := "com/example/leastwise/leastwise/core/AuthorizableTypeOfPinLaw", name := "truncated", desc := "(IZ)[C" } : Jvm.MethodName) method_7_code (2 : Nat) (Option.some (Jvm.ClassFile.FieldType.array Jvm.ClassFile.FieldType.char)), Jvm.Cond.code ({ cls := "java/lang/String", name := "<init>", desc := "([C)V" } : Jvm.MethodName) jdk_42_method_3_code (2 : Nat) (Option.none : Option Jvm.ClassFile.FieldType), Jvm.Cond.code ({ cls := "java/lang/String", name := "<init>", desc := "([CIILjava/lang/Void;)V" } : Jvm.MethodName) jdk_42_method_149_code (6 : Nat) (Option.none : Option Jvm.ClassFile.FieldType), Jvm.Cond.code ({ cls := "java/lang/Object", name := "<init>", desc := "()V" } : Jvm.MethodName) object_method_1_code (1 : Nat) (Option.none : Option Jvm.ClassFile.FieldType), Jvm.Cond.code ({ cls := "java/lang/StringUTF16", name := "compress", desc := "([CII)[B" } : Jvm.MethodName) jdk_52_method_16_code (6 : Nat) (Option.some (Jvm.ClassFile.FieldType.array Jvm.ClassFile.FieldType.byte)), Jvm.Cond.code ({ cls := "java/lang/StringUTF16", name := "compress", desc := "([CI[BII)I" } : Jvm.MethodName) jdk_52_method_21_code (7 : Nat) (Option.some Jvm.ClassFile.FieldType.int), Jvm.Cond.code ({ cls := "java/lang/StringUTF16", name := "coderFromArrayLen", desc := "([BI)B" } : Jvm.MethodName) jdk_52_method_15_code (2 : Nat) (Option.some Jvm.ClassFile.FieldType.byte), Jvm.Cond.code ({ cls := "com/example/leastwise/leastwise/core/AuthorizableTypeOfPinLaw", name := "reference", desc := "(Ljava/lang/String;)Lcom/example/leastwise/leastwise/core/AuthorizableType;" } : Jvm.MethodName) method_3_code (1 : Nat) (Option.some (Jvm.ClassFile.FieldType.object "com/example/leastwise/leastwise/core/AuthorizableType")), Jvm.Cond.code ({ cls := "java/lang/String", name := "equals", desc := "(Ljava/lang/Object;)Z" } : Jvm.MethodName) jdk_42_method_66_code (3 : Nat) (Option.some Jvm.ClassFile.FieldType.boolean), Jvm.Cond.code ({ cls := "java/lang/StringLatin1", name := "equals", desc := "([B[B)Z" } : Jvm.MethodName) jdk_43_method_13_code (3 : Nat) (Option.some Jvm.ClassFile.FieldType.boolean), Jvm.Cond.code ({ cls := "com/example/leastwise/leastwise/core/AuthorizableType", name := "of", desc := "(Ljava/lang/String;)Lcom/example/leastwise/leastwise/core/AuthorizableType;" } : Jvm.MethodName) prog_29_method_7_code (5 : Nat) (Option.some (Jvm.ClassFile.FieldType.object "com/example/leastwise/leastwise/core/AuthorizableType")), Jvm.Cond.code ({ cls := "com/example/leastwise/leastwise/core/AuthorizableType", name := "values", desc := "()[Lcom/example/leastwise/leastwise/core/AuthorizableType;" } : Jvm.MethodName) prog_29_method_1_code (0 : Nat) (Option.some (Jvm.ClassFile.FieldType.array (Jvm.ClassFile.FieldType.object "com/example/leastwise/leastwise/core/AuthorizableType"))), Jvm.Cond.code ({ cls := "com/example/leastwise/leastwise/core/AuthorizableTypeOfPinLaw", name := "extended", desc := "(I)[C" } : Jvm.MethodName) method_6_code (1 : Nat) (Option.some (Jvm.ClassFile.FieldType.array Jvm.ClassFile.FieldType.char)), Jvm.Cond.code ({ cls := "com/example/leastwise/leastwise/core/AuthorizableTypeOfPinLaw", name := "full", desc := "(I)[C" } : Jvm.MethodName) method_5_code (1 : Nat) (Option.some (Jvm.ClassFile.FieldType.array Jvm.ClassFile.FieldType.char)), Jvm.Cond.code ({ cls := "com/example/leastwise/leastwise/core/AuthorizableTypeOfPinLaw", name := "byIndex", desc := "(I)Lcom/example/leastwise/leastwise/core/AuthorizableType;" } : Jvm.MethodName) method_4_code (1 : Nat) (Option.some (Jvm.ClassFile.FieldType.object "com/example/leastwise/leastwise/core/AuthorizableType"))]
set_option maxRecDepth 65536 in
theorem codes_eq : words1.filter isCode = codes1 := rfl
theorem w_codes : ∀ c ∈ words1.filter isCode, c.before args0 about1 = true := by
  rw [codes_eq]
  intro c hc
  simp only [codes1, List.mem_cons, List.not_mem_nil, or_false] at hc
  rcases hc with rfl | rfl | rfl | rfl | rfl | rfl | rfl | rfl | rfl | rfl | rfl | rfl | rfl | rfl | rfl | rfl
  · exact w_c0
  · exact w_c1
  · exact w_c2
  · exact w_c3
  · exact w_c4
  · exact w_c5
  · exact w_c6
  · exact w_c7
  · exact w_c8
  · exact w_c9
  · exact w_c10
  · exact w_c11
  · exact w_c12
  · exact w_c13
  · exact w_c14
  · exact w_c15
set_option maxRecDepth 65536 in
theorem w_t1 : (words1.take 24).all (fun c => isCode c || c.before args0 about1) = true := by decide +kernel
set_option maxRecDepth 65536 in
theorem w_t2 : ((words1.drop 24).take 24).all (fun c => isCode c || c.before args0 about1) = true := by decide +kernel
set_option maxRecDepth 65536 in
theorem w_t3 : (((words1.drop 24).drop 24).take 24).all (fun c => isCode c || c.before args0 about1) = true := by decide +kernel
set_option maxRecDepth 65536 in
theorem w_t4 : (((words1.drop 24).drop 24).drop 24).all (fun c => isCode c || c.before args0 about1) = true := by decide +kernel
theorem w_tables : (allAtoms (Jvm.Cond.code x code maxLocals ret :: tables_1)).before args0 about1 = true := by
  rw [allAtoms_all]
  show words1.all (fun c => c.before args0 about1) = true
  refine all_split ?_ w_codes
  rw [← List.take_append_drop 24 words1, List.all_append, w_t1, ← List.take_append_drop 24 (words1.drop 24), List.all_append, w_t2, ← List.take_append_drop 24 ((words1.drop 24).drop 24), List.all_append, w_t3, w_t4]
  rfl
set_option maxRecDepth 65536 in
theorem w_rest : rest_1_c.before args0 about1 = true := by decide +kernel
set_option maxRecDepth 65536 in
theorem w_case : (Jvm.Cond.and given_1 narrow_1).before args0 about1 = true := by decide +kernel
set_option maxRecDepth 65536 in
theorem w_consts : constsHeld consts_1 about1 := Jvm.Lit.constsHeldB_iff.mp (by decide +kernel)
theorem w_applies : (headSpec (Jvm.Cond.code x code maxLocals ret :: tables_1) room_1).applies x e0.platform about1 = true :=
  (Spec.applies_iff w_frames).mpr ⟨w_running, w_runnable, w_alone, w_named, w_hears, w_ripe, w_room, w_tables⟩
theorem atStart : AtStart classFile x code maxLocals ret World_1 tables_1 room_1 Calls_1 rest_1 Pre_1 launch0 p0 e0 about1 theMethod args0 below0 :=
  ⟨lists_1, trivial, launch0.admits_env _ _ _, launch0.least_env, fairChoices_fair.cas, fairChoices_fair.clock, w_frames, w_args, w_heap, w_applies, ⟨w_consts, trivial⟩, w_rest, w_case⟩
end start1
theorem witness_1 : WitnessClaimed_1 := ⟨start1.p0, start1.e0, start1.about1, start1.theMethod, start1.args0, start1.below0, start1.atStart⟩
end Jvm.Pilot.@@N@@
