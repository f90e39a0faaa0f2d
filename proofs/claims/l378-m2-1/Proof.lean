import JvmDerived
import JvmDerived.Pilot.@@N@@Statement
import JvmDerived.Pilot.@@N@@Code
set_option linter.unusedVariables false
set_option linter.unusedSimpArgs false
@@BLOCK:NumsL.lean.txt@@
/- laws to paste: Road.backV (cut by pick.py; bodies as the Statement names them) -/
namespace Jvm.Pilot.@@N@@
namespace StrChars
open Jvm Sem ClassFile Op Lib Jvm.Stand Jvm.Free.XT Jvm.Free.ALB Jvm.Free.JM Jvm.Free
open Jvm.Lib.Cold (StaticIs)
/-- a char array whose places are chars -/
def Ch (a : Addr) (A : Cell) (U : State) : Prop := Arr .char a A U ∧ Typed .char A
theorem Ch.mv {a : Addr} {A : Cell} {U U' : State} (h : Ch a A U) (hal : U.vm.Alike U'.vm) (hh : U'.heap = U.heap) : Ch a A U' := ⟨h.1.mv hal hh, h.2⟩
theorem Ch.keep {a : Addr} {A : Cell} {U U' : State} (h : Ch a A U) (hal : U.vm.Alike U'.vm) (hk : U'.heap[a]? = some A) : Ch a A U' := ⟨h.1.keep hal hk, h.2⟩
/-- what place i of a char[]'s cell holds -/
def cv (A : Cell) (i : Nat) : Int32 := match A.slots[i]? with | some (.int x) => x | _ => 0
theorem Ch.get {a : Addr} {A : Cell} {U : State} (h : Ch a A U) {i : Nat} (hi : i < A.slots.size) : A.slots[i]? = some (.int (cv A i)) := by
  have e := Array.getElem?_eq_getElem hi
  have f := h.2 i _ e
  unfold cv; rw [e]
  generalize A.slots[i] = v at f
  cases v <;> simp [fits] at f ⊢
/-- the byte that i2b leaves of a char -/
def lo8 (x : Int32) : Int32 := x.toInt8.toInt32
theorem fits_lo8 (y : Int32) : fits .byte (.int (lo8 y)) = true := by
  have h1 := y.toInt8.le_toInt
  have h2 := y.toInt8.toInt_lt
  simp only [lo8, fits, Bool.and_eq_true, decide_eq_true_eq, Int32.le_iff_toInt_le, Int8.toInt_toInt32, show (-128 : Int32).toInt = -128 from by decide, show (127 : Int32).toInt = 127 from by decide]
  omega
/-- A' is A but that each place j of lo .. hi - 1 holds f j -/
def Laid (A A' : Cell) (lo hi : Nat) (f : Nat → Value) : Prop := A'.cls = A.cls ∧ A'.vm = A.vm ∧ A'.slots.size = A.slots.size ∧ ∀ i, A'.slots[i]? = if lo ≤ i ∧ i < hi then some (f i) else A.slots[i]?
theorem Laid.zero (A : Cell) (lo : Nat) (f : Nat → Value) : Laid A A lo (lo + 0) f := ⟨rfl, rfl, rfl, fun i => by rw [if_neg (by omega)]⟩
theorem Laid.step {A Ak : Cell} {lo k : Nat} {f : Nat → Value} {v : Value} (h : Laid A Ak lo k f) (hlo : lo ≤ k) (hk : k < Ak.slots.size) (hv : v = f k) : Laid A (Ak.setSlot k v) lo (k + 1) f := by
  refine ⟨h.1, h.2.1, by simpa [Cell.setSlot] using h.2.2.1, fun i => ?_⟩
  by_cases e : k = i
  · subst e; rw [Cell.slots_setSlot_self v hk, if_pos (by omega), hv]
  · rw [Cell.slots_setSlot_ne v e, h.2.2.2 i]
    by_cases q : lo ≤ i ∧ i < k
    · rw [if_pos q, if_pos (by omega)]
    · rw [if_neg q, if_neg (by omega)]
def U16 : String := "java/lang/StringUTF16"
namespace Cmp5
def yN : MethodName := ⟨"java/lang/StringUTF16", "compress", "([CI[BII)I"⟩
abbrev yB : ByteArray := jdk_52_method_21_code
theorem d0 : decode yB 0 = .ok (.iconst 0, 1) := by decide +kernel
theorem d1 : decode yB 1 = .ok (.istore 5, 2) := by decide +kernel
theorem d3 : decode yB 3 = .ok (.iload 5, 2) := by decide +kernel
theorem d5 : decode yB 5 = .ok (.iload 4, 2) := by decide +kernel
theorem d7 : decode yB 7 = .ok (.if_icmp (.ge) 37, 3) := by decide +kernel
theorem d10 : decode yB 10 = .ok (.aload_n 0, 1) := by decide +kernel
theorem d11 : decode yB 11 = .ok (.iload_n 1, 1) := by decide +kernel
theorem d12 : decode yB 12 = .ok (.caload, 1) := by decide +kernel
theorem d13 : decode yB 13 = .ok (.istore 6, 2) := by decide +kernel
theorem d15 : decode yB 15 = .ok (.iload 6, 2) := by decide +kernel
theorem d17 : decode yB 17 = .ok (.sipush 255, 3) := by decide +kernel
theorem d20 : decode yB 20 = .ok (.if_icmp (.le) 6, 3) := by decide +kernel
theorem d26 : decode yB 26 = .ok (.aload_n 2, 1) := by decide +kernel
theorem d27 : decode yB 27 = .ok (.iload_n 3, 1) := by decide +kernel
theorem d28 : decode yB 28 = .ok (.iload 6, 2) := by decide +kernel
theorem d30 : decode yB 30 = .ok (.i2b, 1) := by decide +kernel
theorem d31 : decode yB 31 = .ok (.bastore, 1) := by decide +kernel
theorem d32 : decode yB 32 = .ok (.iinc 1 1, 3) := by decide +kernel
theorem d35 : decode yB 35 = .ok (.iinc 3 1, 3) := by decide +kernel
theorem d38 : decode yB 38 = .ok (.iinc 5 1, 3) := by decide +kernel
theorem d41 : decode yB 41 = .ok (.goto (-38), 3) := by decide +kernel
theorem d44 : decode yB 44 = .ok (.iload 4, 2) := by decide +kernel
theorem d46 : decode yB 46 = .ok (.ireturn, 1) := by decide +kernel
def site : List Cond := []
def tab : Cond := tabOf yN yB 7 (some .int) site
def P (b : Addr) (A : Cell) (d : Addr) (B : Cell) (o q len : Nat) (args : Array Value) (s : State) : Prop := args = #[.ref b, .int (Int32.ofNat o), .ref d, .int (Int32.ofNat q), .int (Int32.ofNat len)] ∧ Ch b A s ∧ Arr .byte d B s ∧ b ≠ d ∧ o + len ≤ A.slots.size ∧ q + len ≤ B.slots.size ∧ ∀ i, i < len → ¬ 255 < cv A (o + i)
def E (b : Addr) (A : Cell) (d : Addr) (B : Cell) (o q len : Nat) (r : Option Value) (s u : State) : Prop := r = some (.int (Int32.ofNat len)) ∧ ∃ B', Put d B' s u ∧ Laid B B' q (q + len) (fun j => Value.int (lo8 (cv A (o + (j - q)))))
/-- no char of the range above 255: len; the places written hold each char's low byte -/
theorem law (l : Launch) (b : Addr) (A : Cell) (d : Addr) (B : Cell) (o q len : Nat) : Law l yN 5 5 0 0 yB 7 (some .int) site (P b A d B o q len) (E b A d B o q len) (copyLocs d q len) 0 0 := by
  refine Law.of_walk (plainFor_of_name (by decide +kernel)) (by decide +kernel) (by decide +kernel) (by decide) (fun _ _ h => by rw [h.1]; rfl) (fun _ U U' hal hh h => ⟨h.1, h.2.1.mv hal hh, h.2.2.1.mv hal hh, h.2.2.2⟩) (fun r U U' V V' h1 hal h2 h => ⟨h.1, h.2.elim fun B' q => ⟨B', q.1.mv h1 h2, q.2⟩⟩) ?_
  intro p e s m args below meth c s₁ X0 hexec hbytes hml hret hlk hnm hown hh0 W hP
  obtain ⟨rfl, hA, hB, hne, l1, l2, hp⟩ := hP
  have c1 : Steps p.tables e below (s₁.setTop (entryFrame m #[.ref b, .int (Int32.ofNat o), .ref d, .int (Int32.ofNat q), .int (Int32.ofNat len)] 7)) (s₁.setTop (mkF m 0 #[.val (.ref b), .val (.int (Int32.ofNat o)), .val (.ref d), .val (.int (Int32.ofNat q)), .val (.int (Int32.ofNat len)), .unset, .unset] [])) := entry rfl
  have hA0 := hA.1.mv X0.warmed.alike hh0
  have hB0 := hB.mv X0.warmed.alike hh0
  have a31 := hA.1.2.2.2
  have c2 : Steps p.tables e below (s₁.setTop (entryFrame m #[.ref b, .int (Int32.ofNat o), .ref d, .int (Int32.ofNat q), .int (Int32.ofNat len)] 7)) (s₁.setTop (mkF m 3 #[.val (.ref b), .val (.int (Int32.ofNat o)), .val (.ref d), .val (.int (Int32.ofNat q)), .val (.int (Int32.ofNat len)), .val (.int 0), .unset] [])) := c1.trans (by
    refine iconstV X0.here hexec rfl 0 (hb hbytes d0) (by decide) ?_
    refine XS.istore X0.here hexec rfl (hb hbytes d1) rfl rfl ?_
    exact Steps.refl _)
  have loop : ∀ (r i : Nat), i + r = len → ∀ (z : Slot), (z = .unset ∨ ∃ w, z = .val w ∧ w.category = 1) → ∀ (Tl : State) (Bk : Cell), Stand p l e { frames := 0, locals := 0, cells := 0, slots := 0 } s m #[.ref b, .int (Int32.ofNat o), .ref d, .int (Int32.ofNat q), .int (Int32.ofNat len)] below meth c Tl ([] ++ copyLocs d q i) 0 0 → Put d Bk s₁ Tl → Laid B Bk q (q + i) (fun j => Value.int (lo8 (cv A (o + (j - q))))) →
      Steps p.tables e below (s₁.setTop (entryFrame m #[.ref b, .int (Int32.ofNat o), .ref d, .int (Int32.ofNat q), .int (Int32.ofNat len)] 7)) (Tl.setTop (mkF m 3 #[.val (.ref b), .val (.int (Int32.ofNat (o + i))), .val (.ref d), .val (.int (Int32.ofNat (q + i))), .val (.int (Int32.ofNat len)), .val (.int (Int32.ofNat i)), z] [])) → ∃ (T' : State) (B' : Cell) (z' : Slot), Stand p l e { frames := 0, locals := 0, cells := 0, slots := 0 } s m #[.ref b, .int (Int32.ofNat o), .ref d, .int (Int32.ofNat q), .int (Int32.ofNat len)] below meth c T' ([] ++ copyLocs d q len) 0 0 ∧ Put d B' s₁ T' ∧ Laid B B' q (q + len) (fun j => Value.int (lo8 (cv A (o + (j - q))))) ∧
      Steps p.tables e below (s₁.setTop (entryFrame m #[.ref b, .int (Int32.ofNat o), .ref d, .int (Int32.ofNat q), .int (Int32.ofNat len)] 7)) (T'.setTop (mkF m 3 #[.val (.ref b), .val (.int (Int32.ofNat (o + len))), .val (.ref d), .val (.int (Int32.ofNat (q + len))), .val (.int (Int32.ofNat len)), .val (.int (Int32.ofNat len)), z'] [])) := by
    intro r
    induction r with
    | zero =>
      intro i hi z hz Tl Bk Xl pl fl cl
      have hil : i = len := by omega
      rw [hil] at Xl fl cl
      exact ⟨Tl, Bk, z, Xl, pl, fl, cl⟩
    | succ r ih =>
      intro i hi z hz Tl Bk Xl pl fl cl
      have all := X0.warmed.alike.symm.trans Xl.warmed.alike
      have hAl := hA0.keep all (pl.other hne hA0.1)
      have hBk := hB0.like all pl.1 fl.1 fl.2.1 fl.2.2.1
      have hlt : q + i < Bk.slots.size := by rw [fl.2.2.1]; omega
      have c3 : Steps p.tables e below (s₁.setTop (entryFrame m #[.ref b, .int (Int32.ofNat o), .ref d, .int (Int32.ofNat q), .int (Int32.ofNat len)] 7)) (Tl.setTop (mkF m 12 #[.val (.ref b), .val (.int (Int32.ofNat (o + i))), .val (.ref d), .val (.int (Int32.ofNat (q + i))), .val (.int (Int32.ofNat len)), .val (.int (Int32.ofNat i)), z] [.int (Int32.ofNat (o + i)), .ref b])) := cl.trans (by
        refine XS.iload Xl.here hexec rfl (hb hbytes d3) rfl ?_
        refine XS.iload Xl.here hexec rfl (hb hbytes d5) rfl ?_
        refine XS.icmpNo Xl.here hexec rfl (hb hbytes d7) rfl (ii_ge_f (lt32 (by omega) (by omega))) ?_
        refine XS.aloadN Xl.here hexec rfl (hb hbytes d10) rfl rfl ?_
        refine XS.iloadN Xl.here hexec rfl (hb hbytes d11) rfl ?_
        exact Steps.refl _)
      have c4 : Steps p.tables e below (s₁.setTop (entryFrame m #[.ref b, .int (Int32.ofNat o), .ref d, .int (Int32.ofNat q), .int (Int32.ofNat len)] 7)) (Tl.setTop (mkF m 13 #[.val (.ref b), .val (.int (Int32.ofNat (o + i))), .val (.ref d), .val (.int (Int32.ofNat (q + i))), .val (.int (Int32.ofNat len)), .val (.int (Int32.ofNat i)), z] [.int (cv A (o + i))])) := c3.trans (by
        refine Xl.aget hexec hAl rfl (hA.get (i := o + i) (by omega)) rfl rfl (hb hbytes d12) ?_
        exact Steps.refl _)
      have c5 : Steps p.tables e below (s₁.setTop (entryFrame m #[.ref b, .int (Int32.ofNat o), .ref d, .int (Int32.ofNat q), .int (Int32.ofNat len)] 7)) (Tl.setTop (mkF m 15 #[.val (.ref b), .val (.int (Int32.ofNat (o + i))), .val (.ref d), .val (.int (Int32.ofNat (q + i))), .val (.int (Int32.ofNat len)), .val (.int (Int32.ofNat i)), .val (.int (cv A (o + i)))] [])) := c4.trans (by
        refine XS.istoreS Xl.here hexec rfl (hb hbytes d13) rfl rfl hz ?_
        exact Steps.refl _)
      have c6 : Steps p.tables e below (s₁.setTop (entryFrame m #[.ref b, .int (Int32.ofNat o), .ref d, .int (Int32.ofNat q), .int (Int32.ofNat len)] 7)) (Tl.setTop (mkF m 31 #[.val (.ref b), .val (.int (Int32.ofNat (o + i))), .val (.ref d), .val (.int (Int32.ofNat (q + i))), .val (.int (Int32.ofNat len)), .val (.int (Int32.ofNat i)), .val (.int (cv A (o + i)))] [.int (lo8 (cv A (o + i))), .int (Int32.ofNat (q + i)), .ref d])) := c5.trans (by
        refine XS.iload Xl.here hexec rfl (hb hbytes d15) rfl ?_
        refine sipushV Xl.here hexec rfl 255 (hb hbytes d17) (by decide) ?_
        refine XS.icmpYes Xl.here hexec rfl (pc0 := 20) rfl (hb hbytes d20) rfl (ii_le_t (hp i (by omega))) (by decide) rfl ?_
        refine XS.aloadN Xl.here hexec rfl (hb hbytes d26) rfl rfl ?_
        refine XS.iloadN Xl.here hexec rfl (hb hbytes d27) rfl ?_
        refine XS.iload Xl.here hexec rfl (hb hbytes d28) rfl ?_
        refine i2b Xl.here hexec rfl (hb hbytes d30) rfl ?_
        exact Steps.refl _)
      obtain ⟨T7, X7, p7, st7⟩ := Xl.aput hexec hBk rfl hlt rfl (fits_lo8 (cv A (o + i))) (g := (mkF m 31 #[.val (.ref b), .val (.int (Int32.ofNat (o + i))), .val (.ref d), .val (.int (Int32.ofNat (q + i))), .val (.int (Int32.ofNat len)), .val (.int (Int32.ofNat i)), .val (.int (cv A (o + i)))] [.int (lo8 (cv A (o + i))), .int (Int32.ofNat (q + i)), .ref d])) rfl (rest := []) rfl (hb hbytes d31)
      have c8 : Steps p.tables e below (s₁.setTop (entryFrame m #[.ref b, .int (Int32.ofNat o), .ref d, .int (Int32.ofNat q), .int (Int32.ofNat len)] 7)) (T7.setTop (mkF m 32 #[.val (.ref b), .val (.int (Int32.ofNat (o + i))), .val (.ref d), .val (.int (Int32.ofNat (q + i))), .val (.int (Int32.ofNat len)), .val (.int (Int32.ofNat i)), .val (.int (cv A (o + i)))] [])) := c6.trans (st7 _ (Steps.refl _))
      have c9 : Steps p.tables e below (s₁.setTop (entryFrame m #[.ref b, .int (Int32.ofNat o), .ref d, .int (Int32.ofNat q), .int (Int32.ofNat len)] 7)) (T7.setTop (mkF m 3 #[.val (.ref b), .val (.int (Int32.ofNat (o + i) + 1)), .val (.ref d), .val (.int (Int32.ofNat (q + i) + 1)), .val (.int (Int32.ofNat len)), .val (.int (Int32.ofNat i + 1)), .val (.int (cv A (o + i)))] [])) := c8.trans (by
        refine iincV X7.here hexec rfl 1 (hb hbytes d32) (by decide) rfl rfl ?_
        refine iincV X7.here hexec rfl 1 (hb hbytes d35) (by decide) rfl rfl ?_
        refine iincV X7.here hexec rfl 1 (hb hbytes d38) (by decide) rfl rfl ?_
        refine XS.goto X7.here hexec rfl (pc0 := 41) rfl (hb hbytes d41) (by decide) rfl ?_
        exact Steps.refl _)
      have c10 : Steps p.tables e below (s₁.setTop (entryFrame m #[.ref b, .int (Int32.ofNat o), .ref d, .int (Int32.ofNat q), .int (Int32.ofNat len)] 7)) (T7.setTop (mkF m 3 #[.val (.ref b), .val (.int (Int32.ofNat (o + (i + 1)))), .val (.ref d), .val (.int (Int32.ofNat (q + (i + 1)))), .val (.int (Int32.ofNat len)), .val (.int (Int32.ofNat (i + 1))), .val (.int (cv A (o + i)))] [])) := by
        have := c9
        rw [succ32, succ32, succ32] at this
        exact this
      exact ih (i + 1) (by omega) _ (Or.inr ⟨_, rfl, rfl⟩) T7 _ (by rw [copyLocs_step, ← List.append_assoc]; exact X7) (pl.trans p7) (fl.step (by omega) hlt (by simp)) c10
  obtain ⟨T9, B9, z9, X9, p9, f9, g9⟩ := loop len 0 (by omega) .unset (Or.inl rfl) s₁ B (by simpa [copyLocs] using X0) ⟨hB0.1, fun _ _ => rfl, rfl⟩ (Laid.zero _ _ _) c2
  have c11 : Steps p.tables e below (s₁.setTop (entryFrame m #[.ref b, .int (Int32.ofNat o), .ref d, .int (Int32.ofNat q), .int (Int32.ofNat len)] 7)) (T9.setTop (mkF m 46 #[.val (.ref b), .val (.int (Int32.ofNat (o + len))), .val (.ref d), .val (.int (Int32.ofNat (q + len))), .val (.int (Int32.ofNat len)), .val (.int (Int32.ofNat len)), z9] [.int (Int32.ofNat len)])) := g9.trans (by
    refine XS.iload X9.here hexec rfl (hb hbytes d3) rfl ?_
    refine XS.iload X9.here hexec rfl (hb hbytes d5) rfl ?_
    refine XS.icmpYes X9.here hexec rfl (pc0 := 7) rfl (hb hbytes d7) rfl (ii_ge_t (nlt32 (by omega) (Nat.le_refl _))) (by decide) rfl ?_
    refine XS.iload X9.here hexec rfl (hb hbytes d44) rfl ?_
    exact Steps.refl _)
  exact ⟨T9, some (.int (Int32.ofNat len)), _, _, _, X9, by simp, rfl, rfl, (fun h => by cases h), ⟨rfl, B9, p9.from hh0, f9⟩, fun fs hl => c11.trans (X9.ireturnOut hexec hret rfl (Or.inl rfl) (hb hbytes d46) hl)⟩
end Cmp5
namespace Cmp3
def yN : MethodName := ⟨"java/lang/StringUTF16", "compress", "([CII)[B"⟩
abbrev yB : ByteArray := jdk_52_method_16_code
theorem d0 : decode yB 0 = .ok (.iload_n 2, 1) := by decide +kernel
theorem d1 : decode yB 1 = .ok (.newarray .byte, 2) := by decide +kernel
theorem d3 : decode yB 3 = .ok (.astore_n 3, 1) := by decide +kernel
theorem d4 : decode yB 4 = .ok (.aload_n 0, 1) := by decide +kernel
theorem d5 : decode yB 5 = .ok (.iload_n 1, 1) := by decide +kernel
theorem d6 : decode yB 6 = .ok (.aload_n 3, 1) := by decide +kernel
theorem d7 : decode yB 7 = .ok (.iconst 0, 1) := by decide +kernel
theorem d8 : decode yB 8 = .ok (.iload_n 2, 1) := by decide +kernel
theorem d9 : decode yB 9 = .ok (.invokestatic 115, 3) := by decide +kernel
theorem d12 : decode yB 12 = .ok (.istore 4, 2) := by decide +kernel
theorem d14 : decode yB 14 = .ok (.iload 4, 2) := by decide +kernel
theorem d16 : decode yB 16 = .ok (.iload_n 2, 1) := by decide +kernel
theorem d17 : decode yB 17 = .ok (.if_icmp (.eq) 40, 3) := by decide +kernel
theorem d57 : decode yB 57 = .ok (.aload_n 3, 1) := by decide +kernel
theorem d58 : decode yB 58 = .ok (.areturn, 1) := by decide +kernel
def site : List Cond := [.arrayClass .byte, Cmp5.tab] ++ staticW U16 115 Cmp5.yN
def tab : Cond := tabOf yN yB 6 (some (.array .byte)) site
def P (b : Addr) (A : Cell) (o len : Nat) (args : Array Value) (s : State) : Prop := args = #[.ref b, .int (Int32.ofNat o), .int (Int32.ofNat len)] ∧ Ch b A s ∧ o + len ≤ A.slots.size ∧ len ≤ 536870912 ∧ ∀ i, i < len → ¬ 255 < cv A (o + i)
def E (b : Addr) (A : Cell) (o len : Nat) (r : Option Value) (s u : State) : Prop := NewArr .byte "[B" len (fun j => .int (lo8 (cv A (o + j)))) r s u ∧ u.heap.size = s.heap.size + 1
/-- no char of the range above 255: a new byte[] of their low bytes -/
theorem law (l : Launch) (b : Addr) (A : Cell) (o len : Nat) : Law l yN 3 3 1 18 yB 6 (some (.array .byte)) site (P b A o len) (E b A o len) [] 1 len := by
  refine Law.of_walk (plainFor_of_name (by decide +kernel)) (by decide +kernel) (by decide +kernel) (by decide) (fun _ _ h => by rw [h.1]; rfl) (fun _ U U' hal hh h => ⟨h.1, h.2.1.mv hal hh, h.2.2⟩) (fun r U U' V V' h1 hal h2 h => ⟨NewArr.mv r U U' V V' h1 hal h2 h.1, by rw [h1, h2]; exact h.2⟩) ?_
  intro p e s m args below meth c s₁ X0 hexec hbytes hml hret hlk hnm hown hh0 W hP
  obtain ⟨rfl, hA, l1, l2, hp⟩ := hP
  have a31 := hA.1.2.2.2
  have c1 : Steps p.tables e below (s₁.setTop (entryFrame m #[.ref b, .int (Int32.ofNat o), .int (Int32.ofNat len)] 6)) (s₁.setTop (mkF m 0 #[.val (.ref b), .val (.int (Int32.ofNat o)), .val (.int (Int32.ofNat len)), .unset, .unset, .unset] [])) := entry rfl
  have c2 : Steps p.tables e below (s₁.setTop (entryFrame m #[.ref b, .int (Int32.ofNat o), .int (Int32.ofNat len)] 6)) (s₁.setTop (mkF m 1 #[.val (.ref b), .val (.int (Int32.ofNat o)), .val (.int (Int32.ofNat len)), .unset, .unset, .unset] [.int (Int32.ofNat len)])) := c1.trans (by
    refine XS.iloadN X0.here hexec rfl (hb hbytes d0) rfl ?_
    exact Steps.refl _)
  obtain ⟨T3, B3, X3, ba3, bs3, bv3, bh3, bf3, st3⟩ := X0.anew hexec (atype := .byte) (wk W (.arrayClass .byte)) rfl (by show len * 1 ≤ _; omega) (by omega) (g := (mkF m 1 #[.val (.ref b), .val (.int (Int32.ofNat o)), .val (.int (Int32.ofNat len)), .unset, .unset, .unset] [.int (Int32.ofNat len)])) rfl (hb hbytes d1) (rest := []) rfl (Nat.le_refl _) (by show 0 + len ≤ len; omega)
  rw [hh0] at ba3 st3
  have kp3 : XT.Kept s T3 := (XT.Kept.of_eq hh0).push bh3
  have hA3 := hA.keep X3.warmed.alike (kp3 _ _ hA.1.1)
  have hne : b ≠ s.heap.size := hA.1.ne
  have c4 : Steps p.tables e below (s₁.setTop (entryFrame m #[.ref b, .int (Int32.ofNat o), .int (Int32.ofNat len)] 6)) (T3.setTop (mkF m 3 #[.val (.ref b), .val (.int (Int32.ofNat o)), .val (.int (Int32.ofNat len)), .unset, .unset, .unset] [.ref s.heap.size])) := c2.trans (st3 _ (Steps.refl _))
  have c5 : Steps p.tables e below (s₁.setTop (entryFrame m #[.ref b, .int (Int32.ofNat o), .int (Int32.ofNat len)] 6)) (T3.setTop (mkF m 9 #[.val (.ref b), .val (.int (Int32.ofNat o)), .val (.int (Int32.ofNat len)), .val (.ref s.heap.size), .unset, .unset] [.int (Int32.ofNat len), .int 0, .ref s.heap.size, .int (Int32.ofNat o), .ref b])) := c4.trans (by
    refine XS.astoreN X3.here hexec rfl (hb hbytes d3) rfl rfl rfl ?_
    refine XS.aloadN X3.here hexec rfl (hb hbytes d4) rfl rfl ?_
    refine XS.iloadN X3.here hexec rfl (hb hbytes d5) rfl ?_
    refine XS.aloadN X3.here hexec rfl (hb hbytes d6) rfl rfl ?_
    refine iconstV X3.here hexec rfl 0 (hb hbytes d7) (by decide) ?_
    refine XS.iloadN X3.here hexec rfl (hb hbytes d8) rfl ?_
    exact Steps.refl _)
  obtain ⟨v6, T6, X6, E6, g6⟩ := X3.callS hexec (Cmp5.law l b A s.heap.size B3 o 0 len) hown (wks W (staticW U16 115 Cmp5.yN)) (wk W Cmp5.tab) (W := 0) (Nat.le_of_ble_eq_true rfl) (Nat.le_of_ble_eq_true rfl) (Nat.le_refl _) (by show 0 + len + 0 ≤ len; omega) (g := (mkF m 9 #[.val (.ref b), .val (.int (Int32.ofNat o)), .val (.int (Int32.ofNat len)), .val (.ref s.heap.size), .unset, .unset] [.int (Int32.ofNat len), .int (Int32.ofNat 0), .ref s.heap.size, .int (Int32.ofNat o), .ref b])) rfl (by rw [hml]; rfl) c5 (argsL := [.ref b, .int (Int32.ofNat o), .ref s.heap.size, .int (Int32.ofNat 0), .int (Int32.ofNat len)]) (rest := []) rfl rfl (by show 2 * 0 + 0 ≤ _; decide) (hb hbytes d9) (⟨rfl, hA3, ba3, hne, l1, by rw [bs3]; simp, hp⟩)
  obtain ⟨rfl, B6, p6, f6⟩ := E6
  have c7 : Steps p.tables e below (s₁.setTop (entryFrame m #[.ref b, .int (Int32.ofNat o), .int (Int32.ofNat len)] 6)) (T6.setTop (mkF m 12 #[.val (.ref b), .val (.int (Int32.ofNat o)), .val (.int (Int32.ofNat len)), .val (.ref s.heap.size), .unset, .unset] [.int (Int32.ofNat len)])) := g6
  have c8 : Steps p.tables e below (s₁.setTop (entryFrame m #[.ref b, .int (Int32.ofNat o), .int (Int32.ofNat len)] 6)) (T6.setTop (mkF m 58 #[.val (.ref b), .val (.int (Int32.ofNat o)), .val (.int (Int32.ofNat len)), .val (.ref s.heap.size), .val (.int (Int32.ofNat len)), .unset] [.ref s.heap.size])) := c7.trans (by
    refine XS.istore X6.here hexec rfl (hb hbytes d12) rfl rfl ?_
    refine XS.iload X6.here hexec rfl (hb hbytes d14) rfl ?_
    refine XS.iloadN X6.here hexec rfl (hb hbytes d16) rfl ?_
    refine XS.icmpYes X6.here hexec rfl (pc0 := 17) rfl (hb hbytes d17) rfl (ii_eq_t rfl) (by decide) rfl ?_
    refine XS.aloadN X6.here hexec rfl (hb hbytes d57) rfl rfl ?_
    exact Steps.refl _)
  have X8 := X6.wide (L' := []) (cells' := 1) (slots' := len) (fun x hx hlt => by
    simp only [List.nil_append, copyLocs, List.mem_map, List.mem_range] at hx
    obtain ⟨i, -, rfl⟩ := hx
    exact absurd hlt (Nat.lt_irrefl _)) (Nat.le_refl _) (by omega)
  exact ⟨T6, some (.ref s.heap.size), _, _, _, X8, rfl, rfl, rfl, (fun h => by cases h), ⟨⟨rfl, B6, ba3.like (X3.warmed.alike.symm.trans X6.warmed.alike) p6.1 f6.1 f6.2.1 f6.2.2.1, f6.2.1.trans bv3, by rw [X6.warmed.alike.findClass, f6.1]; exact bf3, by rw [f6.2.2.1, bs3]; simp, fun j hj => by rw [f6.2.2.2 j, if_pos (by omega)]; rfl, kp3.put p6 (Nat.le_refl _)⟩, by rw [p6.2.2, bh3, hh0]; simp⟩, fun fs hl => c8.trans (X8.areturnOut hexec rfl hret rfl (hb hbytes d58) hl)⟩
end Cmp3
namespace CodL
def yN : MethodName := ⟨"java/lang/StringUTF16", "coderFromArrayLen", "([BI)B"⟩
abbrev yB : ByteArray := jdk_52_method_15_code
theorem d0 : decode yB 0 = .ok (.iload_n 1, 1) := by decide +kernel
theorem d1 : decode yB 1 = .ok (.aload_n 0, 1) := by decide +kernel
theorem d2 : decode yB 2 = .ok (.arraylength, 1) := by decide +kernel
theorem d3 : decode yB 3 = .ok (.isub, 1) := by decide +kernel
theorem d4 : decode yB 4 = .ok (.bipush 31, 2) := by decide +kernel
theorem d6 : decode yB 6 = .ok (.iushr, 1) := by decide +kernel
theorem d7 : decode yB 7 = .ok (.i2b, 1) := by decide +kernel
theorem d8 : decode yB 8 = .ok (.ireturn, 1) := by decide +kernel
def site : List Cond := []
def tab : Cond := tabOf yN yB 2 (some .byte) site
def P (d : Addr) (B : Cell) (args : Array Value) (s : State) : Prop := args = #[.ref d, .int (Int32.ofNat B.slots.size)] ∧ Arr .byte d B s
def E (r : Option Value) (s u : State) : Prop := XT.PureE (some (.int 0)) r s u
/-- an array as long as the number of chars: LATIN1 -/
theorem law (l : Launch) (d : Addr) (B : Cell) : Law l yN 2 2 0 0 yB 2 (some .byte) site (P d B) E [] 0 0 := by
  refine Law.of_walk (plainFor_of_name (by decide +kernel)) (by decide +kernel) (by decide +kernel) (by decide) (fun _ _ h => by rw [h.1]; rfl) (fun _ U U' hal hh h => ⟨h.1, h.2.mv hal hh⟩) (fun r U U' V V' h1 hal h2 h => XT.PureE.mv r U U' V V' h1 hal h2 h) ?_
  intro p e s m args below meth c s₁ X0 hexec hbytes hml hret hlk hnm hown hh0 W hP
  obtain ⟨rfl, hB⟩ := hP
  have hB0 := hB.mv X0.warmed.alike hh0
  have c1 : Steps p.tables e below (s₁.setTop (entryFrame m #[.ref d, .int (Int32.ofNat B.slots.size)] 2)) (s₁.setTop (mkF m 0 #[.val (.ref d), .val (.int (Int32.ofNat B.slots.size))] [])) := entry rfl
  have c2 : Steps p.tables e below (s₁.setTop (entryFrame m #[.ref d, .int (Int32.ofNat B.slots.size)] 2)) (s₁.setTop (mkF m 2 #[.val (.ref d), .val (.int (Int32.ofNat B.slots.size))] [.ref d, .int (Int32.ofNat B.slots.size)])) := c1.trans (by
    refine XS.iloadN X0.here hexec rfl (hb hbytes d0) rfl ?_
    refine XS.aloadN X0.here hexec rfl (hb hbytes d1) rfl rfl ?_
    exact Steps.refl _)
  have c3 : Steps p.tables e below (s₁.setTop (entryFrame m #[.ref d, .int (Int32.ofNat B.slots.size)] 2)) (s₁.setTop (mkF m 8 #[.val (.ref d), .val (.int (Int32.ofNat B.slots.size))] [.int (lo8 (ushr (Int32.ofNat B.slots.size - Int32.ofNat B.slots.size) 31))])) := c2.trans (by
    refine X0.alen hexec hB0 rfl rfl (hb hbytes d2) ?_
    refine XS.isub X0.here hexec rfl (hb hbytes d3) rfl ?_
    refine bipushV X0.here hexec rfl 31 (hb hbytes d4) (by decide) ?_
    refine iushr X0.here hexec rfl (hb hbytes d6) rfl ?_
    refine i2b X0.here hexec rfl (hb hbytes d7) rfl ?_
    exact Steps.refl _)
  have e0 : lo8 (ushr (Int32.ofNat B.slots.size - Int32.ofNat B.slots.size) 31) = 0 := by rw [Int32.sub_self]; decide
  rw [e0] at c3
  exact ⟨s₁, some (.int 0), _, _, _, X0, rfl, rfl, rfl, (fun h => by cases h), ⟨rfl, hh0⟩, fun fs hl => c3.trans (X0.ireturnOut hexec hret rfl (Or.inr (Or.inr (Or.inl rfl))) (hb hbytes d8) hl)⟩
end CodL
/-- the String at a is Latin-1 over a new byte[] (the heap's one new cell): the low bytes of the len chars of A from o on; every cell but a is kept -/
def Got (a : Addr) (D : Cell) (fV fC : Field) (A : Cell) (o len : Nat) (r : Option Value) (s u : State) : Prop := r = none ∧ ∃ D' V : Cell, Blank "java/lang/String" a D' u ∧ Same D D' [fV.slot, fC.slot] ∧ D'.slots[fV.slot]? = some (.ref s.heap.size) ∧ D'.slots[fC.slot]? = some (.int 0) ∧ Arr .byte s.heap.size V u ∧ V.vm = .none ∧ u.vm.findClass "[B" = some V.cls ∧ V.slots.size = len ∧ (∀ j, j < len → V.slots[j]? = some (.int (lo8 (cv A (o + j))))) ∧ (∀ (y : Addr) (c : Cell), y ≠ a → s.heap[y]? = some c → u.heap[y]? = some c) ∧ u.heap.size = s.heap.size + 1
theorem Got.mv {a : Addr} {D A : Cell} {fV fC : Field} {o len : Nat} : ∀ r (U U' V V' : State), U'.heap = U.heap → V.vm.Alike V'.vm → V'.heap = V.heap → Got a D fV fC A o len r U V → Got a D fV fC A o len r U' V' :=
  fun r U U' V V' h1 hal h2 ⟨e0, D', X, a1, a2, a3, a4, a5, a6, a7, a8, a9, a10, a11⟩ => ⟨e0, D', X, a1.mv hal h2, a2, by rw [h1]; exact a3, a4, by rw [h1]; exact a5.mv hal h2, a6, by rw [hal.findClass]; exact a7, a8, a9, by rw [h1, h2]; exact a10, by rw [h1, h2]; exact a11⟩
namespace New4
def yN : MethodName := ⟨"java/lang/String", "<init>", "([CIILjava/lang/Void;)V"⟩
abbrev yB : ByteArray := jdk_42_method_149_code
theorem d0 : decode yB 0 = .ok (.aload_n 0, 1) := by decide +kernel
theorem d1 : decode yB 1 = .ok (.invokespecial 1, 3) := by decide +kernel
theorem d4 : decode yB 4 = .ok (.iload_n 3, 1) := by decide +kernel
theorem d5 : decode yB 5 = .ok (.ifCond (.ne) 22, 3) := by decide +kernel
theorem d27 : decode yB 27 = .ok (.getstatic 38, 3) := by decide +kernel
theorem d30 : decode yB 30 = .ok (.ifCond (.eq) 28, 3) := by decide +kernel
theorem d33 : decode yB 33 = .ok (.aload_n 1, 1) := by decide +kernel
theorem d34 : decode yB 34 = .ok (.iload_n 2, 1) := by decide +kernel
theorem d35 : decode yB 35 = .ok (.iload_n 3, 1) := by decide +kernel
theorem d36 : decode yB 36 = .ok (.invokestatic 177, 3) := by decide +kernel
theorem d39 : decode yB 39 = .ok (.astore 5, 2) := by decide +kernel
theorem d41 : decode yB 41 = .ok (.aload_n 0, 1) := by decide +kernel
theorem d42 : decode yB 42 = .ok (.aload 5, 2) := by decide +kernel
theorem d44 : decode yB 44 = .ok (.iload_n 3, 1) := by decide +kernel
theorem d45 : decode yB 45 = .ok (.invokestatic 47, 3) := by decide +kernel
theorem d48 : decode yB 48 = .ok (.putfield 15, 3) := by decide +kernel
theorem d51 : decode yB 51 = .ok (.aload_n 0, 1) := by decide +kernel
theorem d52 : decode yB 52 = .ok (.aload 5, 2) := by decide +kernel
theorem d54 : decode yB 54 = .ok (.putfield 9, 3) := by decide +kernel
theorem d57 : decode yB 57 = .ok (.return_, 1) := by decide +kernel
def site : List Cond := [.fieldLink "java/lang/String" 38 "java/lang/String" "COMPACT_STRINGS" "Z", Cmp3.tab, CodL.tab, .laysFinal "java/lang/String" "java/lang/String" "value" "[B", .fieldLink "java/lang/String" 9 "java/lang/String" "value" "[B", .laysFinal "java/lang/String" "java/lang/String" "coder" "B", .fieldLink "java/lang/String" 15 "java/lang/String" "coder" "B"] ++ objW "java/lang/String" 1 ++ staticW "java/lang/String" 177 Cmp3.yN ++ staticW "java/lang/String" 47 CodL.yN
def tab : Cond := tabOf yN yB 6 none site
def P (a : Addr) (D : Cell) (fV fC : Field) (b : Addr) (A : Cell) (z : Int32) (o len : Nat) (args : Array Value) (s : State) : Prop := args = #[.ref a, .ref b, .int (Int32.ofNat o), .int (Int32.ofNat len), .null] ∧ Blank "java/lang/String" a D s ∧ Found "java/lang/String" "value" "[B" fV s ∧ Found "java/lang/String" "coder" "B" fC s ∧ Ch b A s ∧ StaticIs s "java/lang/String" "COMPACT_STRINGS" "Z" (.int z) ∧ ¬ z = 0 ∧ 0 < len ∧ o + len ≤ A.slots.size ∧ len ≤ 536870912 ∧ ∀ i, i < len → ¬ 255 < cv A (o + i)
def E (a : Addr) (D : Cell) (fV fC : Field) (A : Cell) (o len : Nat) (r : Option Value) (s u : State) : Prop := Got a D fV fC A o len r s u
/-- len > 0, no char of the range above 255: a Latin-1 String of their low bytes -/
theorem law (l : Launch) (a : Addr) (D : Cell) (fV fC : Field) (b : Addr) (A : Cell) (z : Int32) (o len : Nat) : Law l yN 5 4 2 35 yB 6 none site (P a D fV fC b A z o len) (E a D fV fC A o len) [⟨a, fC.slot⟩, ⟨a, fV.slot⟩] 1 len := by
  refine Law.of_walk (plainFor_of_name (by decide +kernel)) (by decide +kernel) (by decide +kernel) (by decide) (fun _ _ h => by rw [h.1]; rfl) (fun _ U U' hal hh h => ⟨h.1, h.2.1.mv hal hh, h.2.2.1.al hal, h.2.2.2.1.al hal, h.2.2.2.2.1.mv hal hh, h.2.2.2.2.2.1.there hal hh, h.2.2.2.2.2.2⟩) (fun r U U' V V' h1 hal h2 h => Got.mv r U U' V V' h1 hal h2 h) ?_
  intro p e s m args below meth c s₁ X0 hexec hbytes hml hret hlk hnm hown hh0 W hP
  obtain ⟨rfl, hB, f1, f2, hA, s1, hz, l0, l1, l2, hp⟩ := hP
  have a31 := hA.1.2.2.2
  have c1 : Steps p.tables e below (s₁.setTop (entryFrame m #[.ref a, .ref b, .int (Int32.ofNat o), .int (Int32.ofNat len), .null] 6)) (s₁.setTop (mkF m 0 #[.val (.ref a), .val (.ref b), .val (.int (Int32.ofNat o)), .val (.int (Int32.ofNat len)), .val .null, .unset] [])) := entry rfl
  have c2 : Steps p.tables e below (s₁.setTop (entryFrame m #[.ref a, .ref b, .int (Int32.ofNat o), .int (Int32.ofNat len), .null] 6)) (s₁.setTop (mkF m 1 #[.val (.ref a), .val (.ref b), .val (.int (Int32.ofNat o)), .val (.int (Int32.ofNat len)), .val .null, .unset] [.ref a])) := c1.trans (by
    refine XS.aloadN X0.here hexec rfl (hb hbytes d0) rfl rfl ?_
    exact Steps.refl _)
  obtain ⟨T3, X3, q3, st3⟩ := X0.oinit hexec hown (wks W (objW "java/lang/String" 1)) (g := (mkF m 1 #[.val (.ref a), .val (.ref b), .val (.int (Int32.ofNat o)), .val (.int (Int32.ofNat len)), .val .null, .unset] [.ref a])) rfl (by rw [hml]; rfl) (rest := []) rfl (hb hbytes d1) (W := 0) (by show 2 * 0 + 0 ≤ _; decide) (Nat.le_of_ble_eq_true rfl) (Nat.le_of_ble_eq_true rfl)
  have hh3 := q3.trans hh0
  have c4 : Steps p.tables e below (s₁.setTop (entryFrame m #[.ref a, .ref b, .int (Int32.ofNat o), .int (Int32.ofNat len), .null] 6)) (T3.setTop (mkF m 27 #[.val (.ref a), .val (.ref b), .val (.int (Int32.ofNat o)), .val (.int (Int32.ofNat len)), .val .null, .unset] [])) := (c2.trans (st3 _ (Steps.refl _))).trans (by
    refine XS.iloadN X3.here hexec rfl (hb hbytes d4) rfl ?_
    refine XS.ifYes X3.here hexec rfl (pc0 := 5) rfl (hb hbytes d5) rfl (i0_ne_t (nz32 (by omega) l0)) (by decide) rfl ?_
    exact Steps.refl _)
  obtain ⟨T5, X5, q5, st5⟩ := X3.sget hexec hown (wk W (.fieldLink "java/lang/String" 38 "java/lang/String" "COMPACT_STRINGS" "Z")) s1 (fun _ _ h => by rw [hh3]; exact h) (g := (mkF m 27 #[.val (.ref a), .val (.ref b), .val (.int (Int32.ofNat o)), .val (.int (Int32.ofNat len)), .val .null, .unset] [])) rfl (hb hbytes d27)
  have hh5 := q5.trans hh3
  have c6 : Steps p.tables e below (s₁.setTop (entryFrame m #[.ref a, .ref b, .int (Int32.ofNat o), .int (Int32.ofNat len), .null] 6)) (T5.setTop (mkF m 30 #[.val (.ref a), .val (.ref b), .val (.int (Int32.ofNat o)), .val (.int (Int32.ofNat len)), .val .null, .unset] [.int z])) := c4.trans (st5 _ (Steps.refl _))
  have c7 : Steps p.tables e below (s₁.setTop (entryFrame m #[.ref a, .ref b, .int (Int32.ofNat o), .int (Int32.ofNat len), .null] 6)) (T5.setTop (mkF m 36 #[.val (.ref a), .val (.ref b), .val (.int (Int32.ofNat o)), .val (.int (Int32.ofNat len)), .val .null, .unset] [.int (Int32.ofNat len), .int (Int32.ofNat o), .ref b])) := c6.trans (by
    refine XS.ifNo X5.here hexec rfl (hb hbytes d30) rfl (i0_eq_f hz) ?_
    refine XS.aloadN X5.here hexec rfl (hb hbytes d33) rfl rfl ?_
    refine XS.iloadN X5.here hexec rfl (hb hbytes d34) rfl ?_
    refine XS.iloadN X5.here hexec rfl (hb hbytes d35) rfl ?_
    exact Steps.refl _)
  obtain ⟨v8, T8, X8, E8, g8⟩ := X5.callS hexec (Cmp3.law l b A o len) hown (wks W (staticW "java/lang/String" 177 Cmp3.yN)) (wk W Cmp3.tab) (W := 0) (Nat.le_of_ble_eq_true rfl) (Nat.le_of_ble_eq_true rfl) (Nat.le_refl _) (by show 0 + len ≤ len; omega) (g := (mkF m 36 #[.val (.ref a), .val (.ref b), .val (.int (Int32.ofNat o)), .val (.int (Int32.ofNat len)), .val .null, .unset] [.int (Int32.ofNat len), .int (Int32.ofNat o), .ref b])) rfl (by rw [hml]; rfl) c7 (argsL := [.ref b, .int (Int32.ofNat o), .int (Int32.ofNat len)]) (rest := []) rfl rfl (by show 2 * 0 + 0 ≤ _; decide) (hb hbytes d36) (⟨rfl, hA.mv X5.warmed.alike hh5, l1, l2, hp⟩)
  obtain ⟨e8, z8⟩ := E8
  obtain ⟨rfl, N, n1, n2, n3, n4, n5, n6⟩ := NewArr.mv _ T5 s _ _ hh5.symm (Vm.Alike.refl _) rfl e8
  rw [hh5] at z8
  have hB1 := hB.keep X8.warmed.alike (n6 _ _ hB.1)
  have hne : s.heap.size ≠ a := (Nat.ne_of_lt (Array.getElem?_eq_some_iff.mp hB.1).1).symm
  have c9 : Steps p.tables e below (s₁.setTop (entryFrame m #[.ref a, .ref b, .int (Int32.ofNat o), .int (Int32.ofNat len), .null] 6)) (T8.setTop (mkF m 39 #[.val (.ref a), .val (.ref b), .val (.int (Int32.ofNat o)), .val (.int (Int32.ofNat len)), .val .null, .unset] [.ref s.heap.size])) := g8
  have c10 : Steps p.tables e below (s₁.setTop (entryFrame m #[.ref a, .ref b, .int (Int32.ofNat o), .int (Int32.ofNat len), .null] 6)) (T8.setTop (mkF m 45 #[.val (.ref a), .val (.ref b), .val (.int (Int32.ofNat o)), .val (.int (Int32.ofNat len)), .val .null, .val (.ref s.heap.size)] [.int (Int32.ofNat N.slots.size), .ref s.heap.size, .ref a])) := by
    have hc : Steps p.tables e below (s₁.setTop (entryFrame m #[.ref a, .ref b, .int (Int32.ofNat o), .int (Int32.ofNat len), .null] 6)) (T8.setTop (mkF m 45 #[.val (.ref a), .val (.ref b), .val (.int (Int32.ofNat o)), .val (.int (Int32.ofNat len)), .val .null, .val (.ref s.heap.size)] [.int (Int32.ofNat len), .ref s.heap.size, .ref a])) := c9.trans (by
      refine XS.astore X8.here hexec rfl (hb hbytes d39) rfl rfl rfl ?_
      refine XS.aloadN X8.here hexec rfl (hb hbytes d41) rfl rfl ?_
      refine XS.aload X8.here hexec rfl (hb hbytes d42) rfl rfl ?_
      refine XS.iloadN X8.here hexec rfl (hb hbytes d44) rfl ?_
      exact Steps.refl _)
    rw [n4]; exact hc
  obtain ⟨v11, T11, X11, E11, g11⟩ := X8.callS hexec (CodL.law l s.heap.size N) hown (wks W (staticW "java/lang/String" 47 CodL.yN)) (wk W CodL.tab) (W := 1) (Nat.le_of_ble_eq_true rfl) (Nat.le_of_ble_eq_true rfl) (Nat.le_refl _) (by show 0 + len + 0 ≤ len; omega) (g := (mkF m 45 #[.val (.ref a), .val (.ref b), .val (.int (Int32.ofNat o)), .val (.int (Int32.ofNat len)), .val .null, .val (.ref s.heap.size)] [.int (Int32.ofNat N.slots.size), .ref s.heap.size, .ref a])) rfl (by rw [hml]; rfl) c10 (argsL := [.ref s.heap.size, .int (Int32.ofNat N.slots.size)]) (rest := [.ref a]) rfl rfl (by show 2 * 0 + (1 + 0) ≤ _; decide) (hb hbytes d45) (⟨rfl, n1⟩)
  obtain ⟨rfl, q11⟩ := E11
  have hB11 := hB1.mv (X8.warmed.alike.symm.trans X11.warmed.alike) q11
  have c12 : Steps p.tables e below (s₁.setTop (entryFrame m #[.ref a, .ref b, .int (Int32.ofNat o), .int (Int32.ofNat len), .null] 6)) (T11.setTop (mkF m 48 #[.val (.ref a), .val (.ref b), .val (.int (Int32.ofNat o)), .val (.int (Int32.ofNat len)), .val .null, .val (.ref s.heap.size)] [.int 0, .ref a])) := g11
  obtain ⟨T13, X13, p13, bl13, sl13, st13⟩ := X11.finit hexec hown (wk W (.fieldLink "java/lang/String" 15 "java/lang/String" "coder" "B")) (Or.inr ⟨_, (wk W (.laysFinal "java/lang/String" "java/lang/String" "coder" "B"))⟩) (Or.inl ⟨rfl, hnm⟩) f2 (Or.inl rfl) hB11 (t := .byte) (by decide +kernel) rfl (g := (mkF m 48 #[.val (.ref a), .val (.ref b), .val (.int (Int32.ofNat o)), .val (.int (Int32.ofNat len)), .val .null, .val (.ref s.heap.size)] [.int 0, .ref a])) rfl (rest := []) rfl (hb hbytes d48)
  have c14 : Steps p.tables e below (s₁.setTop (entryFrame m #[.ref a, .ref b, .int (Int32.ofNat o), .int (Int32.ofNat len), .null] 6)) (T13.setTop (mkF m 54 #[.val (.ref a), .val (.ref b), .val (.int (Int32.ofNat o)), .val (.int (Int32.ofNat len)), .val .null, .val (.ref s.heap.size)] [.ref s.heap.size, .ref a])) := (c12.trans (st13 _ (Steps.refl _))).trans (by
    refine XS.aloadN X13.here hexec rfl (hb hbytes d51) rfl rfl ?_
    refine XS.aload X13.here hexec rfl (hb hbytes d52) rfl rfl ?_
    exact Steps.refl _)
  obtain ⟨T15, X15, p15, bl15, sl15, st15⟩ := X13.finit hexec hown (wk W (.fieldLink "java/lang/String" 9 "java/lang/String" "value" "[B")) (Or.inr ⟨_, (wk W (.laysFinal "java/lang/String" "java/lang/String" "value" "[B"))⟩) (Or.inl ⟨rfl, hnm⟩) f1 (Or.inl rfl) bl13 (t := (.array .byte)) (by decide +kernel) rfl (g := (mkF m 54 #[.val (.ref a), .val (.ref b), .val (.int (Int32.ofNat o)), .val (.int (Int32.ofNat len)), .val .null, .val (.ref s.heap.size)] [.ref s.heap.size, .ref a])) rfl (rest := []) rfl (hb hbytes d54)
  have c16 : Steps p.tables e below (s₁.setTop (entryFrame m #[.ref a, .ref b, .int (Int32.ofNat o), .int (Int32.ofNat len), .null] 6)) (T15.setTop (mkF m 57 #[.val (.ref a), .val (.ref b), .val (.int (Int32.ofNat o)), .val (.int (Int32.ofNat len)), .val .null, .val (.ref s.heap.size)] [])) := c14.trans (st15 _ (Steps.refl _))
  have ap := apart (Or.inr ⟨_, (wk W (.laysFinal "java/lang/String" "java/lang/String" "value" "[B"))⟩) (Or.inr ⟨_, (wk W (.laysFinal "java/lang/String" "java/lang/String" "coder" "B"))⟩) f1 f2 (t₁ := .array .byte) (t₂ := .byte) (by decide +kernel) (by decide +kernel) (by decide)
  have al := X8.warmed.alike.symm.trans X15.warmed.alike
  have n7 : T11.heap[s.heap.size]? = some N := by rw [q11]; exact n1.1
  exact ⟨T15, none, _, _, _, X15, by simp, rfl, by omega, (fun _ => rfl), ⟨rfl, _, N, bl15, ((Same.refl D _).set _ (by simp)).set _ (by simp), sl15, (Cell.slots_setSlot_ne _ ap).trans sl13, n1.keep al (p15.other hne (p13.other hne n7)), n2, by rw [al.findClass]; exact n3, n4, n5, fun y c h1 h2 => p15.other h1 (p13.other h1 (by rw [q11]; exact n6 y c h2)), by rw [p15.2.2, p13.2.2, q11]; exact z8⟩, fun fs hl => c16.trans (X15.returnOut hexec hret (hb hbytes d57) hl)⟩
end New4
namespace New1
def yN : MethodName := ⟨"java/lang/String", "<init>", "([C)V"⟩
abbrev yB : ByteArray := jdk_42_method_3_code
theorem d0 : decode yB 0 = .ok (.aload_n 0, 1) := by decide +kernel
theorem d1 : decode yB 1 = .ok (.aload_n 1, 1) := by decide +kernel
theorem d2 : decode yB 2 = .ok (.iconst 0, 1) := by decide +kernel
theorem d3 : decode yB 3 = .ok (.aload_n 1, 1) := by decide +kernel
theorem d4 : decode yB 4 = .ok (.arraylength, 1) := by decide +kernel
theorem d5 : decode yB 5 = .ok (.aconst_null, 1) := by decide +kernel
theorem d6 : decode yB 6 = .ok (.invokespecial 27, 3) := by decide +kernel
theorem d9 : decode yB 9 = .ok (.return_, 1) := by decide +kernel
def site : List Cond := [New4.tab] ++ initW "java/lang/String" 27 New4.yN
def tab : Cond := tabOf yN yB 2 none site
def P (a : Addr) (D : Cell) (fV fC : Field) (b : Addr) (A : Cell) (z : Int32) (args : Array Value) (s : State) : Prop := args = #[.ref a, .ref b] ∧ Blank "java/lang/String" a D s ∧ Found "java/lang/String" "value" "[B" fV s ∧ Found "java/lang/String" "coder" "B" fC s ∧ Ch b A s ∧ StaticIs s "java/lang/String" "COMPACT_STRINGS" "Z" (.int z) ∧ ¬ z = 0 ∧ 0 < A.slots.size ∧ A.slots.size ≤ 536870912 ∧ ∀ i, i < A.slots.size → ¬ 255 < cv A i
def E (a : Addr) (D : Cell) (fV fC : Field) (A : Cell) (r : Option Value) (s u : State) : Prop := Got a D fV fC A 0 A.slots.size r s u
/-- new String(chars), not empty, no char above 255: a Latin-1 String of their low bytes -/
theorem law (l : Launch) (a : Addr) (D : Cell) (fV fC : Field) (b : Addr) (A : Cell) (z : Int32) : Law l yN 2 1 3 52 yB 2 none site (P a D fV fC b A z) (E a D fV fC A) [⟨a, fC.slot⟩, ⟨a, fV.slot⟩] 1 A.slots.size := by
  refine Law.of_walk (plainFor_of_name (by decide +kernel)) (by decide +kernel) (by decide +kernel) (by decide) (fun _ _ h => by rw [h.1]; rfl) (fun _ U U' hal hh h => ⟨h.1, h.2.1.mv hal hh, h.2.2.1.al hal, h.2.2.2.1.al hal, h.2.2.2.2.1.mv hal hh, h.2.2.2.2.2.1.there hal hh, h.2.2.2.2.2.2⟩) (fun r U U' V V' h1 hal h2 h => Got.mv r U U' V V' h1 hal h2 h) ?_
  intro p e s m args below meth c s₁ X0 hexec hbytes hml hret hlk hnm hown hh0 W hP
  obtain ⟨rfl, hB, f1, f2, hA, s1, hz, l0, l2, hp⟩ := hP
  have c1 : Steps p.tables e below (s₁.setTop (entryFrame m #[.ref a, .ref b] 2)) (s₁.setTop (mkF m 0 #[.val (.ref a), .val (.ref b)] [])) := entry rfl
  have c2 : Steps p.tables e below (s₁.setTop (entryFrame m #[.ref a, .ref b] 2)) (s₁.setTop (mkF m 6 #[.val (.ref a), .val (.ref b)] [.null, .int (Int32.ofNat A.slots.size), .int 0, .ref b, .ref a])) := c1.trans (by
    refine XS.aloadN X0.here hexec rfl (hb hbytes d0) rfl rfl ?_
    refine XS.aloadN X0.here hexec rfl (hb hbytes d1) rfl rfl ?_
    refine iconstV X0.here hexec rfl 0 (hb hbytes d2) (by decide) ?_
    refine XS.aloadN X0.here hexec rfl (hb hbytes d3) rfl rfl ?_
    refine X0.alen hexec (hA.1.mv X0.warmed.alike hh0) rfl rfl (hb hbytes d4) ?_
    refine XS.aconstNull X0.here hexec rfl (hb hbytes d5) ?_
    exact Steps.refl _)
  obtain ⟨v3, T3, X3, E3, g3⟩ := X0.callN hexec (New4.law l a D fV fC b A z 0 A.slots.size) rfl hown (wks W (initW "java/lang/String" 27 New4.yN)) (W New4.tab (by simp only [site, List.mem_cons, List.mem_append, true_or, or_true])) (W := 0) (Nat.le_of_ble_eq_true rfl) (Nat.le_of_ble_eq_true rfl) (Nat.le_refl _) (by show 0 + A.slots.size ≤ A.slots.size; omega) (g := (mkF m 6 #[.val (.ref a), .val (.ref b)] [.null, .int (Int32.ofNat A.slots.size), .int (Int32.ofNat 0), .ref b, .ref a])) rfl (by rw [hml]; rfl) c2 (argsL := [.ref b, .int (Int32.ofNat 0), .int (Int32.ofNat A.slots.size), .null]) (rest := []) rfl rfl (by show 2 * 0 + 0 ≤ _; decide) (hb hbytes d6) (⟨rfl, hB.mv X0.warmed.alike hh0, f1.al X0.warmed.alike, f2.al X0.warmed.alike, hA.mv X0.warmed.alike hh0, s1.there X0.warmed.alike hh0, hz, l0, by omega, l2, fun i hi => by rw [Nat.zero_add]; exact hp i hi⟩)
  have e0 := Got.mv _ s₁ s _ _ hh0.symm (Vm.Alike.refl _) rfl E3
  obtain rfl := e0.1
  have c4 : Steps p.tables e below (s₁.setTop (entryFrame m #[.ref a, .ref b] 2)) (T3.setTop (mkF m 9 #[.val (.ref a), .val (.ref b)] [])) := g3
  exact ⟨T3, none, _, _, _, X3, by simp, rfl, by omega, (fun _ => rfl), e0, fun fs hl => c4.trans (X3.returnOut hexec hret (hb hbytes d9) hl)⟩
theorem pays {l : Launch} {R : Room} {p : Program} {e : Env} {below : List Frame} {s : State} {sargs : Array Value} {len W : Nat} (a : Addr) (D : Cell) (fV fC : Field) (b : Addr) (A : Cell) (z : Int32) (htab : tab.before sargs s = true) (hfr : 4 ≤ R.frames) (hlo : W + 65 ≤ R.locals) :
    Back l R p e below s sargs yN len W (fun A₁ a₁ => A₁.cells + 1 ≤ R.cells ∧ A₁.slots + A.slots.size ≤ R.slots ∧ P a D fV fC b A z a₁ A₁.U) (fun A₁ _ v₁ B₁ => E a D fV fC A v₁ A₁.U B₁.U ∧ B₁.locs = A₁.locs ++ [⟨a, fC.slot⟩, ⟨a, fV.slot⟩] ∧ B₁.cells = A₁.cells + 1 ∧ B₁.slots = A₁.slots + A.slots.size) :=
  (law l a D fV fC b A z).pays htab hfr (by omega)
end New1
end StrChars
namespace StrChars.Road
open Jvm Sem ClassFile Op Lib Jvm.Stand Jvm.Free Jvm.Free.XT
open Jvm.Lib.Cold (StaticIs)
abbrev ST : String := "java/lang/String"
/-- every table word that New1's law asks, flat -/
abbrev words : List Jvm.Cond := [.code New1.yN New1.yB 2 none, .initialized ST, .methodLink ST 27 New4.yN, .instanceMethod New4.yN,
  .code New4.yN New4.yB 6 none, .fieldLink ST 38 ST "COMPACT_STRINGS" "Z", .laysFinal ST ST "value" "[B", .fieldLink ST 9 ST "value" "[B", .laysFinal ST ST "coder" "B", .fieldLink ST 15 ST "coder" "B",
  .methodLink ST 1 Lib.objectInit, .instanceMethod Lib.objectInit, .code Lib.objectInit ⟨#[0xb1]⟩ 1 none, .methodLink ST 177 Cmp3.yN, .static Cmp3.yN, .methodLink ST 47 CodL.yN, .static CodL.yN,
  .code Cmp3.yN Cmp3.yB 6 (some (.array .byte)), .initialized U16, .arrayClass .byte, .methodLink U16 115 Cmp5.yN, .static Cmp5.yN, .code Cmp5.yN Cmp5.yB 7 (some .int), .code CodL.yN CodL.yB 2 (some .byte)]
theorem tab_of {a : Array Value} {s : State} (h : ∀ w ∈ words, w.before a s = true) : New1.tab.before a s = true := by
  have h5 : Cmp5.tab.before a s = true := unparts (wk h (.code Cmp5.yN Cmp5.yB 7 (some .int))) (wks h (.initialized Cmp5.yN.cls :: Cmp5.site))
  have hc : CodL.tab.before a s = true := unparts (wk h (.code CodL.yN CodL.yB 2 (some .byte))) (wks h (.initialized CodL.yN.cls :: CodL.site))
  have q5 : ∀ w ∈ Cmp5.tab :: words, w.before a s = true := fun w hw => (List.mem_cons.mp hw).elim (fun e => e ▸ h5) (h w)
  have h3 : Cmp3.tab.before a s = true := unparts (wk q5 (.code Cmp3.yN Cmp3.yB 6 (some (.array .byte)))) (wks q5 (.initialized Cmp3.yN.cls :: Cmp3.site))
  have q3 : ∀ w ∈ Cmp3.tab :: CodL.tab :: words, w.before a s = true := fun w hw => (List.mem_cons.mp hw).elim (fun e => e ▸ h3) fun hw => (List.mem_cons.mp hw).elim (fun e => e ▸ hc) (h w)
  have h4 : New4.tab.before a s = true := unparts (wk q3 (.code New4.yN New4.yB 6 none)) (wks q3 (.initialized New4.yN.cls :: New4.site))
  have q4 : ∀ w ∈ New4.tab :: words, w.before a s = true := fun w hw => (List.mem_cons.mp hw).elim (fun e => e ▸ h4) (h w)
  exact unparts (wk q4 (.code New1.yN New1.yB 2 none)) (wks q4 (.initialized New1.yN.cls :: New1.site))
/-- the words ride from the start Z to the walk's own state -/
theorem moved {Z s : State} {a0 args : Array Value} (hZ : Z.Warmed39 s.vm) (hw : ∀ d ∈ words, d.before a0 Z = true) : ∀ d ∈ words, d.before args s = true := fun d hd => by
  have q := hw d hd
  have t : ∀ d ∈ words, d = .arrayClass .byte ∨ (d.onTables && d.keepsFace) = true := by decide +kernel
  rcases t d hd with rfl | t
  · exact RoadKit.mvA hZ q
  · exact RoadKit.mv hZ q t
/-- WHAT COMES BACK, over the tables of the start Z: h the heap at the call, h' behind it -/
def Q (Z : State) (x : Addr) (A : Cell) (h : Heap) (v : Option Value) (h' : Heap) (L : List Loc) : Prop := v = none ∧ (∀ y ∈ L, y.base = x) ∧ RoadKit.Keep h h' [x] ∧ h'.size = h.size + 1 ∧ RoadKit.Exa Z h' x ST ∧ RoadKit.Fld Z h' x ST "value" "[B" (.ref h.size) ∧ RoadKit.Fld Z h' x ST "coder" "B" (.int 0) ∧
  (∃ V : Cell, RoadKit.Arr Z h' h.size V .byte ∧ V.vm = .none ∧ Z.vm.findClass "[B" = some V.cls ∧ V.slots.size = A.slots.size ∧ ∀ j, j < A.slots.size → V.slots[j]? = some (.int (lo8 (cv A j)))) ∧
  ∀ (O n d : String) (w : Value), RoadKit.Fld Z h x O n d w → RoadKit.slotOf Z O n d ≠ RoadKit.slotOf Z ST "value" "[B" → RoadKit.slotOf Z O n d ≠ RoadKit.slotOf Z ST "coder" "B" → RoadKit.Fld Z h' x O n d w
/-- **new String(chars) AT A CALL, IN THE ROAD'S FORM**: for specialBack behind newO: x the fresh String, b the char[] with the cell A -/
theorem back {p : Program} {l : Launch} {e : Env} {R : Room} {s : State} {args : Array Value} {below : List Frame} {len W : Nat} {Z : State} {a0 : Array Value} {h : Heap} (hZ : Z.Warmed39 s.vm) (hw : ∀ d ∈ words, d.before a0 Z = true) {kI : Nat} (wi : (Jvm.Cond.instantiable ST kI).before a0 Z = true)
    {x b : Addr} {A : Cell} {z : Int32} {v0 c0 : Value} (E : RoadKit.Exa Z h x ST) (V : RoadKit.Fld Z h x ST "value" "[B" v0) (C : RoadKit.Fld Z h x ST "coder" "B" c0) (K : RoadKit.Arr Z h b A .char) (hty : Typed .char A) (S : RoadKit.Sta Z h ST "COMPACT_STRINGS" "Z" (.int z)) (hz : ¬ z = 0)
    (l0 : 0 < A.slots.size) (l2 : A.slots.size ≤ 536870912) (hp : ∀ i, i < A.slots.size → ¬ 255 < cv A i) (hfr : 4 ≤ R.frames) (hlo : W + 65 ≤ R.locals) :
    Back l R p e below s args New1.yN len W (fun P a => a = #[.ref x, .ref b] ∧ P.U.heap = h ∧ P.cells + 1 ≤ R.cells ∧ P.slots + A.slots.size ≤ R.slots)
      (fun P _ v B => ∃ L, Q Z x A h v B.U.heap L ∧ B.locs = P.locs ++ L ∧ B.cells = P.cells + 1 ∧ B.slots = P.slots + A.slots.size) := by
  intro m meth c P g ig mk a X hg hsize hdg hW hn hp'
  obtain ⟨rfl, rfl, r1, r2⟩ := hp'
  have al : Z.vm.Alike P.U.vm := hZ.alike.trans X.warmed.alike
  obtain ⟨D, cfV, kV, iV, fV, hD, gV, stV, knV, obV, asV, slV⟩ := id V
  obtain ⟨D', cfC, kC, iC, fC, hD', gC, stC, -, -, asC, slC⟩ := id C
  cases hD.symm.trans hD'
  obtain ⟨D2, kD, e1, e2, e3, e4, e5⟩ := id E
  cases hD.symm.trans e1
  obtain ⟨c2, k2, i1, i2, i3, -⟩ := Cond.instantiable_spec wi
  cases e2.symm.trans i1
  cases e3.symm.trans i2
  obtain ⟨kU, u1, u2⟩ := al.2.2 _ _ e3
  have hB : Blank ST x D P.U := ⟨hD, ⟨knV, fun q hq => by rw [hq] at obV; cases obV⟩, by rw [al.findClass]; exact e2, kU, u1, by rw [u2]; exact i3, by rw [u2]; exact e5 i3⟩
  have F1 : Found ST "value" "[B" fV P.U := ⟨SBG.found_only al ⟨cfV, kV, iV, gV⟩, stV⟩
  have F2 : Found ST "coder" "B" fC P.U := ⟨SBG.found_only al ⟨cfC, kC, iC, gC⟩, stC⟩
  have hA : Ch b A P.U := ⟨⟨K.1, State.isArrayOf_alike al K.2.1, K.2.2, by omega⟩, hty⟩
  have hS : StaticIs P.U ST "COMPACT_STRINGS" "Z" (.int z) := by
    obtain ⟨cfS, iS, kS, fS, st, cS, t1, t2, t3, t4, t5, t6, t7⟩ := S
    exact StaticIs.there (s := { Z with heap := P.U.heap }) ⟨cfS, iS, kS, fS, st, cS, t1, t2, t3, t4, t5, (fun q => by rw [q] at t6; cases t6), t7⟩ al rfl
  obtain ⟨v, B, X', ⟨⟨hv, E', V', q1, q2, q3, q4, q5, q6, q7, q8, q9, q10, q11⟩, hl, hc, hs⟩, st⟩ := New1.pays x D fV fC b A z (tab_of (moved hZ hw)) hfr hlo m meth c P g ig mk _ X hg hsize hdg hW hn ⟨r1, r2, rfl, hB, F1, F2, hA, hS, hz, l0, l2, hp⟩
  have al' : Z.vm.Alike B.U.vm := hZ.alike.trans X'.warmed.alike
  have hsz : E'.slots.size = D.slots.size := by
    obtain ⟨-, -, -, kB, w1, w2, w3⟩ := q1
    obtain ⟨kB', y1, y2⟩ := al'.2.2 _ _ e3
    rw [q2.2.1] at w1
    cases w1.symm.trans y1
    rw [w3, e5 i3, y2]
  refine ⟨v, B, X', ⟨_, ⟨hv, ?_, ⟨by omega, fun y cy hy hn' => q10 y cy (by simpa using hn') hy, fun y cy hy => ?_⟩, q11, ⟨E', _, q1.1, by rw [q2.2.1]; exact e2, by rw [q2.2.1]; exact e3, by rw [q2.1]; exact obV, fun _ => by rw [hsz]; exact e5 i3⟩,
    ⟨E', cfV, kV, iV, fV, q1.1, gV, stV, by rw [q2.1]; exact knV, by rw [q2.1]; exact obV, by rw [q2.2.1]; exact asV, q3⟩, ⟨E', cfC, kC, iC, fC, q1.1, gC, stC, by rw [q2.1]; exact knV, by rw [q2.1]; exact obV, by rw [q2.2.1]; exact asC, q4⟩,
    ⟨V', ⟨q5.1, State.isArrayOf_alike al'.symm q5.2.1, q5.2.2.1⟩, q6, by rw [← al'.findClass]; exact q7, q8, fun j hj => by have := q9 j hj; rwa [Nat.zero_add] at this⟩, fun O n d w F n1 n2 => ?_⟩, hl, hc, hs⟩, st⟩
  · intro y hy
    simp only [List.mem_cons, List.not_mem_nil, or_false] at hy
    rcases hy with rfl | rfl <;> rfl
  · by_cases q : y = x
    · subst q
      cases hD.symm.trans hy
      exact ⟨E', q1.1, q2.2.1, q2.1, hsz⟩
    · exact ⟨cy, q10 y cy q hy, rfl, rfl, rfl⟩
  · obtain ⟨D3, cf, k, i, f, g1, g2, g3, g4, g5, g6, g7⟩ := F
    cases hD.symm.trans g1
    simp only [RoadKit.slotOf, g2, gV, gC, Option.map_some, Option.getD_some] at n1 n2
    exact ⟨E', cf, k, i, f, q1.1, g2, g3, by rw [q2.1]; exact g4, by rw [q2.1]; exact g5, by rw [q2.2.1]; exact g6, by rw [q2.2.2 f.slot (by simp [n1, n2])]; exact g7⟩
end StrChars.Road
namespace StrChars.Road
open Jvm Sem ClassFile Op Lib Jvm.Stand Jvm.Free Jvm.Free.XT
/-- WHAT COMES BACK, the byte[] as a list of values -/
def QA (Z : State) (x : Addr) (zn : Int32) (cs : List Int32) (h : Heap) (v : Option Value) (h' : Heap) (L : List Loc) : Prop := v = none ∧ (∀ y ∈ L, y.base = x) ∧ RoadKit.Keep h h' [x] ∧ h'.size = h.size + 1 ∧ RoadKit.Exa Z h' x ST ∧ RoadKit.Fld Z h' x ST "value" "[B" (.ref h.size) ∧ RoadKit.Fld Z h' x ST "coder" "B" (.int 0) ∧
  (∃ kb, Z.vm.findClass "[B" = some kb ∧ RoadKit.Arv Z h' h.size kb .byte zn (cs.map fun c => .int (lo8 c)) (.int 0)) ∧
  ∀ (O n d : String) (w : Value), RoadKit.Fld Z h x O n d w → RoadKit.slotOf Z O n d ≠ RoadKit.slotOf Z ST "value" "[B" → RoadKit.slotOf Z O n d ≠ RoadKit.slotOf Z ST "coder" "B" → RoadKit.Fld Z h' x O n d w
/-- **new String(chars) AT A CALL, THE ARRAYS AS LISTS**: the char[] at b holds cs, not empty, no char above 255 -/
theorem backArv {p : Program} {l : Launch} {e : Env} {R : Room} {s : State} {args : Array Value} {below : List Frame} {len W : Nat} {Z : State} {a0 : Array Value} {h : Heap} (hZ : Z.Warmed39 s.vm) (hw : ∀ d ∈ words, d.before a0 Z = true) {kI : Nat} (wi : (Jvm.Cond.instantiable ST kI).before a0 Z = true)
    {x b : Addr} {k : ClassId} {zn z : Int32} {cs : List Int32} {dv v0 c0 : Value} (E : RoadKit.Exa Z h x ST) (V : RoadKit.Fld Z h x ST "value" "[B" v0) (C : RoadKit.Fld Z h x ST "coder" "B" c0) (K : RoadKit.Arv Z h b k .char zn (cs.map Value.int) dv) (S : RoadKit.Sta Z h ST "COMPACT_STRINGS" "Z" (.int z)) (hz : ¬ z = 0)
    (hlen : zn.toNatClampNeg = cs.length) (h0 : 0 < cs.length) (hbig : cs.length ≤ 536870912) (hall : ∀ c ∈ cs, ¬ 255 < c) (hfr : 4 ≤ R.frames) (hlo : W + 65 ≤ R.locals) :
    Back l R p e below s args New1.yN len W (fun P a => a = #[.ref x, .ref b] ∧ P.U.heap = h ∧ P.cells + 1 ≤ R.cells ∧ P.slots + cs.length ≤ R.slots)
      (fun P _ v B => ∃ L, QA Z x zn cs h v B.U.heap L ∧ B.locs = P.locs ++ L ∧ B.cells = P.cells + 1 ∧ B.slots = P.slots + cs.length) := by
  obtain ⟨A, K1, K2, K3, K4, K5, K6⟩ := K
  have e : A.slots.size = cs.length := K3.trans hlen
  have hat : ∀ (i : Nat) (hi : i < cs.length), A.slots[i]? = some (.int cs[i]) := fun i hi => by rw [K5 i (by omega)]; simp [List.getD_eq_getElem?_getD, hi]
  have hcv : ∀ (i : Nat) (hi : i < cs.length), cv A i = cs[i] := fun i hi => by unfold cv; rw [hat i hi]
  have hty : Typed .char A := fun i v hv => by
    have hi : i < A.slots.size := (Array.getElem?_eq_some_iff.mp hv).1
    have q := K5 i hi
    rw [hv] at q
    rw [Option.some.inj q]
    exact K6 i hi
  refine Back.mono (back hZ hw wi E V C K1 hty S hz (by omega) (by omega) (fun i hi => by rw [hcv i (by omega)]; exact hall _ (List.getElem_mem _)) hfr hlo) (fun P a hp => ⟨hp.1, hp.2.1, hp.2.2.1, by rw [e]; exact hp.2.2.2⟩) (fun P a v B hp hq => ?_)
  obtain ⟨L, ⟨q1, q2, q3, q4, q5, q6, q7, ⟨V', v1, v2, v3, v4, v5⟩, q9⟩, hl, hc, hs⟩ := hq
  refine ⟨L, ⟨q1, q2, q3, q4, q5, q6, q7, ⟨V'.cls, v3, V', v1, rfl, by rw [v4, e, hlen], K4, fun i hi => ?_, fun i hi => ?_⟩, q9⟩, hl, hc, by rw [hs, e]⟩
  · have hi' : i < cs.length := by omega
    rw [v5 i (by omega), hcv i hi']; simp [List.getD_eq_getElem?_getD, hi']
  · have hi' : i < cs.length := by omega
    simp only [List.getD_eq_getElem?_getD, List.getElem?_map, List.getElem?_eq_getElem hi', Option.map_some, Option.getD_some]
    exact fits_lo8 _
end StrChars.Road
namespace StrChars.Road
open Jvm Sem ClassFile Op Lib Jvm.Stand Jvm.Free Jvm.Free.XT
/-- WHAT COMES BACK, in the writer's own shape -/
def QV (Z : State) (x : Addr) (N : Int32) (bs : List Int32) (h : Heap) (n0 : Nat) (v : Option Value) (h' : Heap) (L : List Loc) : Prop := v = none ∧ RoadKit.Fr n0 L ∧ RoadKit.Keep h h' [x] ∧ RoadKit.Exa Z h' x ST ∧ RoadKit.Fld Z h' x ST "coder" "B" (.int 0) ∧
  ∃ (t : Addr) (kb : ClassId), n0 ≤ t ∧ h.size ≤ t ∧ ¬ t = x ∧ RoadKit.Fld Z h' x ST "value" "[B" (.ref t) ∧ RoadKit.Arv Z h' t kb .byte N (bs.map Value.int) (.int 0)
/-- **new String(chars) AT A CALL, FOR THE WRITER**: a char[] of n known ints, each 0 to 255 -/
theorem backV {p : Program} {l : Launch} {e : Env} {R : Room} {s : State} {args : Array Value} {below : List Frame} {len W : Nat} {Z : State} {a0 : Array Value} {h : Heap} (hZ : Z.Warmed39 s.vm) (hw : ∀ d ∈ words, d.before a0 Z = true) {kI : Nat} (wi : (Jvm.Cond.instantiable ST kI).before a0 Z = true)
    {x b : Addr} {kC : ClassId} {cs bs : List Int32} {d v0 c0 : Value} {z N : Int32} {n n0 : Nat} (hx0 : n0 ≤ x) (hh0 : n0 ≤ h.size) (E : RoadKit.Exa Z h x ST) (V : RoadKit.Fld Z h x ST "value" "[B" v0) (C : RoadKit.Fld Z h x ST "coder" "B" c0) (K : RoadKit.Arv Z h b kC .char N (cs.map Value.int) d) (S : RoadKit.Sta Z h ST "COMPACT_STRINGS" "Z" (.int z)) (hz : ¬ z = 0)
    (hn : cs.length = n) (hN : N = Int32.ofNat n) (l0 : 0 < n) (l2 : n ≤ 4000) (hp : ∀ c ∈ cs, ¬ c < 0 ∧ ¬ (255 : Int32) < c) (hb : bs = cs.map (fun c => c.toInt8.toInt32)) (hfr : 4 ≤ R.frames) (hlo : W + 65 ≤ R.locals) :
    Back l R p e below s args (⟨"java/lang/String", "<init>", "([C)V"⟩ : MethodName) len W (fun P a => a = #[.ref x, .ref b] ∧ P.U.heap = h ∧ P.cells + 1 ≤ R.cells ∧ P.slots + n ≤ R.slots)
      (fun P _ v B => ∃ L, QV Z x N bs h n0 v B.U.heap L ∧ B.locs = P.locs ++ L ∧ B.cells = P.cells + 1 ∧ B.slots = P.slots + n) := by
  subst hn hN hb
  refine Back.mono (backArv hZ hw wi E V C K S hz (n32 (by omega)) l0 (by omega) (fun c hc => (hp c hc).2) hfr hlo) (fun P a hp => hp) (fun P a v B hp hq => ?_)
  obtain ⟨L, ⟨q1, q2, q3, q4, q5, q6, q7, ⟨kb, v1, v2⟩, q9⟩, hl, hc, hs⟩ := hq
  exact ⟨L, ⟨q1, fun y hy => by rw [q2 y hy]; exact hx0, q3, q5, q7, h.size, kb, hh0, Nat.le_refl _, Nat.ne_of_gt E.lt, q6, by rw [List.map_map]; exact v2⟩, hl, hc, hs⟩
end StrChars.Road
end Jvm.Pilot.@@N@@
namespace Jvm.Pilot.@@N@@
open Jvm Jvm.ClassFile Sem Op Lib Jvm.Free Jvm.Stand Jvm.LawKit Jvm.RoadKit Bundle Jvm.Pilot.@@N@@.Jvm.D
/-! general: a run that comes to its end with what Q says -/
def own_G (tb : Tables) (e : Env) (below : List Frame) (S : State) (s : State) (C N : Nat) (Q : Option Value → Heap → List Loc → Prop) : Prop :=
  ∃ t o, Steps tb e below S t ∧ t.status = .running ∧ Ended t below o ∧ ∃ v L, o = .returned v ∧ Q v t.heap L ∧ FrameEnd s o t L C N
def own_P (n0 : Nat) (h0 : Heap) (w : Option Value) (v : Option Value) (h : Heap) (L : List Loc) : Prop := v = w ∧ Fr n0 L ∧ h = h0
section Own
variable {tb : Tables} {p : Program} {l : Launch} {e : Env} {R : Room} {s : State} {m : MethodId} {args : Array Value} {below : List Frame} {meth : Method} {c : Code} {T S S' : State} {locs : List Loc} {cells slots C N n0 : Nat} {h0 : Heap} {Q : Option Value → Heap → List Loc → Prop}
theorem own_go (h : ∀ t, Steps tb e below S' t → Steps tb e below S t) (k : own_G tb e below S' s C N Q) : own_G tb e below S s C N Q := by
  obtain ⟨t, o, a, b⟩ := k
  exact ⟨t, o, h t a, b⟩
theorem own_tr (h : Steps tb e below S S') (k : own_G tb e below S' s C N Q) : own_G tb e below S s C N Q := by
  obtain ⟨t, o, a, b⟩ := k
  exact ⟨t, o, h.trans a, b⟩
theorem own_itI {P : Prop} [Decidable P] {A B : Int32} (h : P) (k : own_G tb e below S s C N (own_P n0 h0 (some (.int A)))) : own_G tb e below S s C N (own_P n0 h0 (some (.int (if P then A else B)))) := by rw [if_pos h]; exact k
theorem own_ifI {P : Prop} [Decidable P] {A B : Int32} (h : ¬ P) (k : own_G tb e below S s C N (own_P n0 h0 (some (.int B)))) : own_G tb e below S s C N (own_P n0 h0 (some (.int (if P then A else B)))) := by rw [if_neg h]; exact k
theorem own_itJ {P : Prop} [Decidable P] {A B : Int64} (h : P) (k : own_G tb e below S s C N (own_P n0 h0 (some (.long A)))) : own_G tb e below S s C N (own_P n0 h0 (some (.long (if P then A else B)))) := by rw [if_pos h]; exact k
theorem own_ifJ {P : Prop} [Decidable P] {A B : Int64} (h : ¬ P) (k : own_G tb e below S s C N (own_P n0 h0 (some (.long B)))) : own_G tb e below S s C N (own_P n0 h0 (some (.long (if P then A else B)))) := by rw [if_neg h]; exact k
theorem own_endO {w : Value} {t : FieldType} {i : Instr} (X : Stand p l e R s m args below meth c T locs cells slots) (hx : p.tables.exec = Jvm.exec) (hlk : meth.locks = false) {pc : Nat} {Ls : Array Slot} {rest : List Value} (hret : meth.sig.returnType = some t) (hn : narrow t w = w)
    (hi : (i = .ireturn ∧ (t = .int ∨ t = .boolean ∨ t = .byte ∨ t = .char ∨ t = .short) ∧ ∃ z, w = .int z) ∨ (i = .lreturn ∧ t = .long ∧ ∃ z, w = .long z) ∨ (i = .dreturn ∧ t = .double ∧ ∃ z, w = .double z) ∨ (i = .freturn ∧ t = .float ∧ ∃ z, w = .float z) ∨ (i = .areturn ∧ t.isReference = true ∧ w.isRef = true))
    (hd : decode c.code pc = .ok (i, 1)) (hC : cells ≤ C) (hN : slots ≤ N) (hQ : Q (some w) T.heap locs) : own_G p.tables e below (T.setTop (mkF m pc Ls (w :: rest))) s C N Q := by
  obtain ⟨fs, hr, hrun, hended, hW, hsame⟩ := X.leave (v := some w) (fun h => by rw [hret] at h; cases h) hlk
  exact ⟨_, _, retOut X hx hret hn hi hd hr, hrun, hended, _, _, rfl, hQ, ⟨_, rfl⟩, hW, hsame.mono hC hN⟩
theorem own_endI {z : Int32} (X : Stand p l e R s m args below meth c T locs cells slots) (hx : p.tables.exec = Jvm.exec) (hlk : meth.locks = false) {pc : Nat} {Ls : Array Slot} {rest : List Value} (hret : meth.sig.returnType = some .int)
    (hd : decode c.code pc = .ok (.ireturn, 1)) (hC : cells ≤ C) (hN : slots ≤ N) (hQ : Q (some (.int z)) T.heap locs) : own_G p.tables e below (T.setTop (mkF m pc Ls (.int z :: rest))) s C N Q :=
  own_endO X hx hlk hret rfl (Or.inl ⟨rfl, Or.inl rfl, z, rfl⟩) hd hC hN hQ
theorem own_endJ {z : Int64} (X : Stand p l e R s m args below meth c T locs cells slots) (hx : p.tables.exec = Jvm.exec) (hlk : meth.locks = false) {pc : Nat} {Ls : Array Slot} {rest : List Value} (hret : meth.sig.returnType = some .long)
    (hd : decode c.code pc = .ok (.lreturn, 1)) (hC : cells ≤ C) (hN : slots ≤ N) (hQ : Q (some (.long z)) T.heap locs) : own_G p.tables e below (T.setTop (mkF m pc Ls (.long z :: rest))) s C N Q :=
  own_endO X hx hlk hret rfl (Or.inr (Or.inl ⟨rfl, rfl, z, rfl⟩)) hd hC hN hQ
theorem own_endR {w : Value} {t : FieldType} (X : Stand p l e R s m args below meth c T locs cells slots) (hx : p.tables.exec = Jvm.exec) (hlk : meth.locks = false) {pc : Nat} {Ls : Array Slot} {rest : List Value} (hret : meth.sig.returnType = some t) (hn : narrow t w = w) (ht : t.isReference = true) (hw : w.isRef = true)
    (hd : decode c.code pc = .ok (.areturn, 1)) (hC : cells ≤ C) (hN : slots ≤ N) (hQ : Q (some w) T.heap locs) : own_G p.tables e below (T.setTop (mkF m pc Ls (w :: rest))) s C N Q :=
  own_endO X hx hlk hret hn (Or.inr (Or.inr (Or.inr (Or.inr ⟨rfl, ht, hw⟩)))) hd hC hN hQ
theorem own_endN {z : Int32} {t : FieldType} (X : Stand p l e R s m args below meth c T locs cells slots) (hx : p.tables.exec = Jvm.exec) (hlk : meth.locks = false) {pc : Nat} {Ls : Array Slot} {rest : List Value} (hret : meth.sig.returnType = some t) (ht : t = .boolean ∨ t = .byte ∨ t = .char ∨ t = .short)
    (hd : decode c.code pc = .ok (.ireturn, 1)) (hC : cells ≤ C) (hN : slots ≤ N) (hQ : Q (some (.int (nar t z))) T.heap locs) : own_G p.tables e below (T.setTop (mkF m pc Ls (.int z :: rest))) s C N Q := by
  obtain ⟨fs, hr, hrun, hended, hW, hsame⟩ := X.leave (v := some (.int (nar t z))) (fun h => by rw [hret] at h; cases h) hlk
  exact ⟨_, _, retN X hx hret ht hd hr, hrun, hended, _, _, rfl, hQ, ⟨_, rfl⟩, hW, hsame.mono hC hN⟩
theorem own_endV (X : Stand p l e R s m args below meth c T locs cells slots) (hx : p.tables.exec = Jvm.exec) (hlk : meth.locks = false) {pc : Nat} {Ls : Array Slot} (hret : meth.sig.returnType = none)
    (hd : decode c.code pc = .ok (.return_, 1)) (hC : cells ≤ C) (hN : slots ≤ N) (hQ : Q none T.heap locs) : own_G p.tables e below (T.setTop (mkF m pc Ls [])) s C N Q := by
  obtain ⟨fs, hr, hrun, hended, hW, hsame⟩ := X.leave (v := none) (fun _ => rfl) hlk
  exact ⟨_, _, X.returnOut hx hret hd hr, hrun, hended, _, _, rfl, hQ, ⟨_, rfl⟩, hW, hsame.mono hC hN⟩
end Own
section OwnW
variable {tb : Tables} {p : Program} {l : Launch} {e : Env} {R : Room} {s Z : State} {EL : List (String × Nat)} {vm0 : Vm} {m : MethodId} {args : Array Value} {below : List Frame} {meth : Method} {c : Code} {T S S' : State} {locs : List Loc} {cells slots C N n0 k0 : Nat} {h0 : Heap} {Q : Option Value → Heap → List Loc → Prop}
/-- the same for a run that may load a literal -/
def own_GW (tb : Tables) (e : Env) (below : List Frame) (S : State) (s : State) (C N : Nat) (Z : State) (EL : List (String × Nat)) (Q : Option Value → Heap → List Loc → Prop) : Prop :=
  ∃ t o, Steps tb e below S t ∧ t.status = .running ∧ Ended t below o ∧ ∃ v L, o = .returned v ∧ Q v t.heap L ∧ CHr Z EL s.vm s.heap t.vm t.heap ∧ ReturnedEndW s o t L C N
theorem own_goW (h : ∀ t, Steps tb e below S' t → Steps tb e below S t) (k : own_GW tb e below S' s C N Z EL Q) : own_GW tb e below S s C N Z EL Q := by
  obtain ⟨t, o, a, b⟩ := k
  exact ⟨t, o, h t a, b⟩
theorem own_trW (h : Steps tb e below S S') (k : own_GW tb e below S' s C N Z EL Q) : own_GW tb e below S s C N Z EL Q := by
  obtain ⟨t, o, a, b⟩ := k
  exact ⟨t, o, h.trans a, b⟩
theorem own_monoW {o : Outcome} {t : State} {L : List Loc} {k n k' n' : Nat} (h : ReturnedEndW s o t L k n) (hk : k ≤ k') (hn : n ≤ n') : ReturnedEndW s o t L k' n' := ⟨h.1, h.2.1, h.2.2.1, h.2.2.2.mono hk hn⟩
theorem own_endWO {w : Value} {t : FieldType} {i : Instr} (X : Stand p l e R (s.setVm vm0) m args below meth c T locs cells slots) (hx : p.tables.exec = Jvm.exec) (hlk : meth.locks = false) {pc : Nat} {Ls : Array Slot} {rest : List Value} (hret : meth.sig.returnType = some t) (hn : narrow t w = w)
    (hi : (i = .ireturn ∧ (t = .int ∨ t = .boolean ∨ t = .byte ∨ t = .char ∨ t = .short) ∧ ∃ z, w = .int z) ∨ (i = .lreturn ∧ t = .long ∧ ∃ z, w = .long z) ∨ (i = .dreturn ∧ t = .double ∧ ∃ z, w = .double z) ∨ (i = .freturn ∧ t = .float ∧ ∃ z, w = .float z) ∨ (i = .areturn ∧ t.isReference = true ∧ w.isRef = true))
    (hd : decode c.code pc = .ok (i, 1)) (hS : s.Since vm0 k0) (hk : k0 ≤ T.heap.size) (hC : cells ≤ C) (hN : slots ≤ N) (hR : CHr Z EL s.vm s.heap T.vm T.heap) (hQ : Q (some w) T.heap locs) : own_GW p.tables e below (T.setTop (mkF m pc Ls (w :: rest))) s C N Z EL Q := by
  obtain ⟨fs, hr, hrun, hended, hW⟩ := X.leaveW hS hk (v := some w) (fun h => by rw [hret] at h; cases h) hlk
  exact ⟨_, _, retOut X hx hret hn hi hd hr, hrun, hended, _, _, rfl, hQ, hR, own_monoW hW hC hN⟩
theorem own_endWN {z : Int32} {t : FieldType} (X : Stand p l e R (s.setVm vm0) m args below meth c T locs cells slots) (hx : p.tables.exec = Jvm.exec) (hlk : meth.locks = false) {pc : Nat} {Ls : Array Slot} {rest : List Value} (hret : meth.sig.returnType = some t) (ht : t = .boolean ∨ t = .byte ∨ t = .char ∨ t = .short)
    (hd : decode c.code pc = .ok (.ireturn, 1)) (hS : s.Since vm0 k0) (hk : k0 ≤ T.heap.size) (hC : cells ≤ C) (hN : slots ≤ N) (hR : CHr Z EL s.vm s.heap T.vm T.heap) (hQ : Q (some (.int (nar t z))) T.heap locs) : own_GW p.tables e below (T.setTop (mkF m pc Ls (.int z :: rest))) s C N Z EL Q := by
  obtain ⟨fs, hr, hrun, hended, hW⟩ := X.leaveW hS hk (v := some (.int (nar t z))) (fun h => by rw [hret] at h; cases h) hlk
  exact ⟨_, _, retN X hx hret ht hd hr, hrun, hended, _, _, rfl, hQ, hR, own_monoW hW hC hN⟩
theorem own_endWV (X : Stand p l e R (s.setVm vm0) m args below meth c T locs cells slots) (hx : p.tables.exec = Jvm.exec) (hlk : meth.locks = false) {pc : Nat} {Ls : Array Slot} (hret : meth.sig.returnType = none)
    (hd : decode c.code pc = .ok (.return_, 1)) (hS : s.Since vm0 k0) (hk : k0 ≤ T.heap.size) (hC : cells ≤ C) (hN : slots ≤ N) (hR : CHr Z EL s.vm s.heap T.vm T.heap) (hQ : Q none T.heap locs) : own_GW p.tables e below (T.setTop (mkF m pc Ls [])) s C N Z EL Q := by
  obtain ⟨fs, hr, hrun, hended, hW⟩ := X.leaveW hS hk (v := none) (fun _ => rfl) hlk
  exact ⟨_, _, X.returnOut hx hret hd hr, hrun, hended, _, _, rfl, hQ, hR, own_monoW hW hC hN⟩
end OwnW

def own_EL : List (String × Nat) := [("com/example/pacelint/pacelint/io/XmlElement", 19), ("com/example/pacelint/pacelint/io/XmlElementAutosarNamePinLaw", 7)]
theorem own_EW {Z : State} {a0 : Array Value} (hw : ∀ d ∈ tables_1, d.before a0 Z = true) : EW Z a0 own_EL := (EW.cons (hw _ (List.mem_of_getElem? (i := 29) rfl)) (by decide) (EW.cons (hw _ (List.mem_of_getElem? (i := 4) rfl)) (by decide) EW.nil))
theorem own_wS {Z : State} {a0 : Array Value} (hw : ∀ d ∈ tables_1, d.before a0 Z = true) : ∀ a ∈ Bundle.stringAtoms, a.before a0 Z = true := fun d hd => hw d ((by decide +kernel : ∀ d ∈ Bundle.stringAtoms, d ∈ tables_1) d hd)
theorem own_words : ∀ d ∈ StrChars.Road.words, d ∈ tables_1 := by decide +kernel
theorem own_fin (v : Int32) (n : Nat) (h0 : 0 ≤ v.toInt) (h1 : v.toInt < n) : ∃ k : Fin n, v = Int32.ofInt (k.val : Int) :=
  ⟨⟨v.toInt.toNat, by omega⟩, by show v = Int32.ofInt ((v.toInt.toNat : Nat) : Int); rw [Int.toNat_of_nonneg h0, Int32.ofInt_toInt]⟩
theorem own_k255 (x : Int32) : ∃ k : Fin 256, (x &&& 255) = Int32.ofInt (k.val : Int) := by
  have e := Jvm.Kit.i32_mask x 255 (k := 8) (by decide) (by decide)
  exact own_fin (x &&& 255) 256 (by omega) (by omega)
theorem own_r255 (x : Int32) : ¬ nar .char (x &&& (255 : Int32)).toUInt32.toUInt16.toUInt32.toInt32 < 0 ∧ ¬ (255 : Int32) < nar .char (x &&& (255 : Int32)).toUInt32.toUInt16.toUInt32.toInt32 := by
  obtain ⟨k, hk⟩ := own_k255 x
  rw [hk]
  exact (by decide +kernel : ∀ k : Fin 256, ¬ nar .char (Int32.ofInt (k.val : Int)).toUInt32.toUInt16.toUInt32.toInt32 < 0 ∧ ¬ (255 : Int32) < nar .char (Int32.ofInt (k.val : Int)).toUInt32.toUInt16.toUInt32.toInt32) k

theorem d15_0 : decode jdk_43_method_3_code 0 = .ok (.iload_n 0, 1) := by decide +kernel
theorem d15_1 : decode jdk_43_method_3_code 1 = .ok (.sipush 255, 3) := by decide +kernel
theorem d15_4 : decode jdk_43_method_3_code 4 = .ok (.if_icmp .gt 7, 3) := by decide +kernel
theorem d15_7 : decode jdk_43_method_3_code 7 = .ok (.iconst 1, 1) := by decide +kernel
theorem d15_8 : decode jdk_43_method_3_code 8 = .ok (.goto 4, 3) := by decide +kernel
theorem d15_11 : decode jdk_43_method_3_code 11 = .ok (.iconst 0, 1) := by decide +kernel
theorem d15_12 : decode jdk_43_method_3_code 12 = .ok (.ireturn, 1) := by decide +kernel
def own_can_12 (p0 : Int32) (w0 : Int32) : Int32 := (w0 &&& 1)
def own_can (p0 : Int32) : Int32 := (if (255 : Int32) < p0 then (own_can_12 p0 (0 : Int32)) else (own_can_12 p0 (1 : Int32)))
theorem pn_0 : plainName "java/lang/StringLatin1" = true := by first | (simp [plainName, overriddenIn]; done) | decide +kernel
theorem ef_15 (m : MethodId) (p0 : Int32) : entryFrame m #[(.int p0)] 1 = mkF m 0 #[.val (.int p0)] [] := by first | (simp [entryFrame, mkF, argsToLocals, Value.category]; done) | rfl
set_option maxRecDepth 65536 in
set_option maxHeartbeats 40000000 in
theorem rm15 (l : Launch) (Z : State) (a0 : Array Value) (hw : ∀ d ∈ tables_1, d.before a0 Z = true) (ws : List Jvm.Cond) (p0 : Int32) (h0 : Heap) (n0 : Nat) :
    MetFree l (⟨"java/lang/StringLatin1", "canEncode", "(C)Z"⟩ : MethodName) (head1 (Jvm.Cond.code (⟨"java/lang/StringLatin1", "canEncode", "(C)Z"⟩ : MethodName) jdk_43_method_3_code 1 (some .boolean) :: ws) ({ frames := 0, cells := 0, slots := 0, locals := 0 } : Room)) (fun a U => a = #[(.int p0)] ∧ Z.Warmed39 U.vm ∧ U.heap = h0) (fun _ _ _ _ _ => True) (fun _ U o U' => ∃ v L, o = .returned v ∧ (own_P n0 h0 (some (.int (own_can p0)))) v U'.heap L ∧ FrameEnd U o U' L ({ frames := 0, cells := 0, slots := 0, locals := 0 } : Room).cells ({ frames := 0, cells := 0, slots := 0, locals := 0 } : Room).slots) := by
  refine MetFree.of_bodySF (plainFor_of_name pn_0) hisR ?_
  intro p e s m args below meth c s₁ Bd hml0 hP hK
  obtain ⟨rfl, hZ, hh⟩ := hP
  have hx := Bd.exec
  have hby := Bd.bytes
  have hml : c.maxLocals = 1 := hml0
  have hown : s.vm.findClass "java/lang/StringLatin1" = some m.cls := findClass_of_methodNamed Bd.named
  have hnm := (name_of_methodNamed Bd.named Bd.method).1
  have hlk : meth.locks = false := BodyLoose.notSynchronized Bd
  have X0 : Stand p l e ({ frames := 0, cells := 0, slots := 0, locals := 0 } : Room) s m #[(.int p0)] below meth c s₁ [] 0 0 := Stand.of_body Bd
  have e0 : s₁.heap = h0 := by rw [← hh, Bd.state]; rfl
  have N0 := Fr.nil n0
  have J12 : ∀ (T : State) (Lc : List Loc) (X : Stand p l e ({ frames := 0, cells := 0, slots := 0, locals := 0 } : Room) s m #[(.int p0)] below meth c T Lc 0 0) (eT : T.heap = h0) (N : Fr n0 Lc) (w0 : Int32) , own_G p.tables e below (T.setTop (mkF m 12 #[.val (.int p0)] [(.int w0)])) s ({ frames := 0, cells := 0, slots := 0, locals := 0 } : Room).cells ({ frames := 0, cells := 0, slots := 0, locals := 0 } : Room).slots (own_P n0 h0 (some (.int (own_can_12 p0 w0)))) := by
    intro T Lc X eT N w0 
    show own_G _ _ _ _ _ _ _ (own_P n0 h0 (some (.int ((w0 &&& 1)))))
    exact own_endN X hx hlk (t := .boolean) Bd.returns (by simp) (hb hby d15_12) (by decide) (by decide) ⟨rfl, N, eT⟩
  show own_G p.tables e below (s₁.setTop (entryFrame m #[(.int p0)] 1)) s ({ frames := 0, cells := 0, slots := 0, locals := 0 } : Room).cells ({ frames := 0, cells := 0, slots := 0, locals := 0 } : Room).slots (own_P n0 h0 (some (.int ((if (255 : Int32) < p0 then (own_can_12 p0 (0 : Int32)) else (own_can_12 p0 (1 : Int32)))))))
  refine own_go (fun _ k => castTop (ef_15 m p0) k) ?_
  refine own_go (fun _ k => XS.iloadN X0.here hx rfl (hb hby d15_0) rfl k) ?_
  show own_G _ _ _ (s₁.setTop (mkF m 1 #[.val (.int p0)] [(.int p0)])) _ _ _ _
  refine own_go (fun _ k => XS.sipush X0.here hx rfl (hb hby d15_1) k) ?_
  show own_G _ _ _ (s₁.setTop (mkF m 4 #[.val (.int p0)] [(.int (255 : Int32)), (.int p0)])) _ _ _ _
  by_cases hc1 : (255 : Int32) < p0
  · refine own_itI hc1 ?_
    refine own_go (fun _ k => XS.icmpYes X0.here hx rfl (pc0 := 4) (pc' := 11) rfl (hb hby d15_4) rfl (tlt hc1).2.2.1 (by decide) (by decide) k) ?_
    show own_G _ _ _ (s₁.setTop (mkF m 11 #[.val (.int p0)] [])) _ _ _ _
    refine own_go (fun _ k => XS.iconst X0.here hx rfl (hb hby d15_11) k) ?_
    show own_G _ _ _ (s₁.setTop (mkF m 12 #[.val (.int p0)] [(.int (0 : Int32))])) _ _ _ _
    exact J12 _ _ X0 e0 N0 (0 : Int32) 
  · refine own_ifI hc1 ?_
    refine own_go (fun _ k => XS.icmpNo X0.here hx rfl (hb hby d15_4) rfl (flt hc1).2.2.1 k) ?_
    show own_G _ _ _ (s₁.setTop (mkF m 7 #[.val (.int p0)] [])) _ _ _ _
    refine own_go (fun _ k => XS.iconst X0.here hx rfl (hb hby d15_7) k) ?_
    show own_G _ _ _ (s₁.setTop (mkF m 8 #[.val (.int p0)] [(.int (1 : Int32))])) _ _ _ _
    refine own_go (fun _ k => XS.goto X0.here hx rfl (pc0 := 8) (pc' := 12) rfl (hb hby d15_8) (by decide) (by decide) k) ?_
    show own_G _ _ _ (s₁.setTop (mkF m 12 #[.val (.int p0)] [(.int (1 : Int32))])) _ _ _ _
    exact J12 _ _ X0 e0 N0 (1 : Int32) 
theorem own_c255 (x : Int32) : ¬ own_can (x &&& (255 : Int32)).toUInt32.toUInt16.toUInt32.toInt32 = 0 := by
  obtain ⟨k, hk⟩ := own_k255 x
  rw [hk]
  exact (by decide +kernel : ∀ k : Fin 256, ¬ own_can (Int32.ofInt (k.val : Int)).toUInt32.toUInt16.toUInt32.toInt32 = 0) k
theorem d16_0 : decode jdk_43_method_46_code 0 = .ok (.iconst 1, 1) := by decide +kernel
theorem d16_1 : decode jdk_43_method_46_code 1 = .ok (.newarray .byte, 2) := by decide +kernel
theorem d16_3 : decode jdk_43_method_46_code 3 = .ok (.dup, 1) := by decide +kernel
theorem d16_4 : decode jdk_43_method_46_code 4 = .ok (.iconst 0, 1) := by decide +kernel
theorem d16_5 : decode jdk_43_method_46_code 5 = .ok (.iload_n 0, 1) := by decide +kernel
theorem d16_6 : decode jdk_43_method_46_code 6 = .ok (.i2b, 1) := by decide +kernel
theorem d16_7 : decode jdk_43_method_46_code 7 = .ok (.bastore, 1) := by decide +kernel
theorem d16_8 : decode jdk_43_method_46_code 8 = .ok (.areturn, 1) := by decide +kernel
theorem ef_16 (m : MethodId) (p0 : Int32) : entryFrame m #[(.int p0)] 1 = mkF m 0 #[.val (.int p0)] [] := by first | (simp [entryFrame, mkF, argsToLocals, Value.category]; done) | rfl
def Q16 (Z : State) (p0 : Int32) (h0 : Heap) (n0 : Nat) (v : Option Value) (h : Heap) (L : List Loc) : Prop := ∃ (b : Addr) (kb : ClassId), v = some (.ref b) ∧ Fr n0 L ∧ Keep h0 h [] ∧ h0.size ≤ b ∧ Arv Z h b kb .byte (1 : Int32) [(.int (nar .byte p0.toInt8.toInt32))] (.int (0 : Int32))
set_option maxRecDepth 65536 in
set_option maxHeartbeats 40000000 in
theorem rm16 (l : Launch) (Z : State) (a0 : Array Value) (hw : ∀ d ∈ tables_1, d.before a0 Z = true) (ws : List Jvm.Cond) (p0 : Int32) (h0 : Heap) (n0 : Nat) (Z0 : n0 ≤ h0.size) :
    MetFree l (⟨"java/lang/StringLatin1", "toBytes", "(C)[B"⟩ : MethodName) (head1 (Jvm.Cond.code (⟨"java/lang/StringLatin1", "toBytes", "(C)[B"⟩ : MethodName) jdk_43_method_46_code 1 (some (.array .byte)) :: ws) ({ frames := 0, cells := 1, slots := 1, locals := 0 } : Room)) (fun a U => a = #[(.int p0)] ∧ Z.Warmed39 U.vm ∧ U.heap = h0) (fun _ _ _ _ _ => True) (fun _ U o U' => ∃ v L, o = .returned v ∧ (Q16 Z p0 h0 n0) v U'.heap L ∧ FrameEnd U o U' L ({ frames := 0, cells := 1, slots := 1, locals := 0 } : Room).cells ({ frames := 0, cells := 1, slots := 1, locals := 0 } : Room).slots) := by
  refine MetFree.of_bodySF (plainFor_of_name pn_0) hisR ?_
  intro p e s m args below meth c s₁ Bd hml0 hP hK
  obtain ⟨rfl, hZ, hh⟩ := hP
  have hx := Bd.exec
  have hby := Bd.bytes
  have hml : c.maxLocals = 1 := hml0
  have hown : s.vm.findClass "java/lang/StringLatin1" = some m.cls := findClass_of_methodNamed Bd.named
  have hnm := (name_of_methodNamed Bd.named Bd.method).1
  have hlk : meth.locks = false := BodyLoose.notSynchronized Bd
  have X0 : Stand p l e ({ frames := 0, cells := 1, slots := 1, locals := 0 } : Room) s m #[(.int p0)] below meth c s₁ [] 0 0 := Stand.of_body Bd
  have e0 : s₁.heap = h0 := by rw [← hh, Bd.state]; rfl
  have N0 := Fr.nil n0
  have K0 : Keep h0 h0 [] := Keep.refl h0 []
  show own_G p.tables e below (s₁.setTop (entryFrame m #[(.int p0)] 1)) s ({ frames := 0, cells := 1, slots := 1, locals := 0 } : Room).cells ({ frames := 0, cells := 1, slots := 1, locals := 0 } : Room).slots (Q16 Z p0 h0 n0)
  refine own_go (fun _ k => castTop (ef_16 m p0) k) ?_
  show own_G _ _ _ (s₁.setTop (mkF m 0 #[.val (.int p0)] [])) _ _ _ _
  refine own_go (fun _ k => XS.iconst X0.here hx rfl (hb hby d16_0) k) ?_
  show own_G _ _ _ (s₁.setTop (mkF m 1 #[.val (.int p0)] [(.int (1 : Int32))])) _ _ _ _
  obtain ⟨T1, h1, k1, X1, e1, E1, A1, st1⟩ := newP X0 hx hZ (hw _ (List.mem_of_getElem? (i := 7) rfl)) e0 (g := (mkF m 1 #[.val (.int p0)] [(.int (1 : Int32))])) rfl (hb hby d16_1) rfl (by decide) (cap := 1) (by decide) (by decide) (by decide) (by decide)
  obtain ⟨b1, g1⟩ : ∃ z, z = h0.size := ⟨_, rfl⟩
  rw [← g1] at A1 st1
  have gg1 : n0 ≤ b1 := Nat.le_trans Z0 (Nat.le_of_eq g1.symm)
  have sz1_0 : h0.size ≤ b1 := Nat.le_trans K0.1 (Nat.le_of_eq g1.symm)
  have Zs1 : n0 ≤ h1.size := Nat.le_trans Z0 E1.1
  have K1_0 : Keep h0 h1 [] := K0.ext E1
  have f2 : Arv Z h1 b1 k1 .byte (1 : Int32) [(.int (0 : Int32))] (.int (0 : Int32)) := (Arv.new A1 (by decide)).pad (pad_rep [] (.int (0 : Int32)) 1)
  refine own_go (fun _ k => st1 _ k) ?_
  show own_G _ _ _ (T1.setTop (mkF m 3 #[.val (.int p0)] [(.ref b1)])) _ _ _ _
  refine own_go (fun _ k => XS.dup X1.here hx rfl (hb hby d16_3) rfl rfl k) ?_
  show own_G _ _ _ (T1.setTop (mkF m 4 #[.val (.int p0)] [(.ref b1), (.ref b1)])) _ _ _ _
  refine own_go (fun _ k => XS.iconst X1.here hx rfl (hb hby d16_4) k) ?_
  show own_G _ _ _ (T1.setTop (mkF m 5 #[.val (.int p0)] [(.int (0 : Int32)), (.ref b1), (.ref b1)])) _ _ _ _
  refine own_go (fun _ k => XS.iloadN X1.here hx rfl (hb hby d16_5) rfl k) ?_
  show own_G _ _ _ (T1.setTop (mkF m 6 #[.val (.int p0)] [(.int p0), (.int (0 : Int32)), (.ref b1), (.ref b1)])) _ _ _ _
  refine own_go (fun _ k => XS.i2b X1.here hx rfl (hb hby d16_6) rfl k) ?_
  show own_G _ _ _ (T1.setTop (mkF m 7 #[.val (.int p0)] [(.int p0.toInt8.toInt32), (.int (0 : Int32)), (.ref b1), (.ref b1)])) _ _ _ _
  obtain ⟨cl3, Ar3, q3, S3, Ng3, H3, G3⟩ := id f2
  have in3 : ¬ ((0 : Int32) < 0 ∨ cl3.slots.size ≤ ((0 : Int32)).toNatClampNeg) := inb_of S3 ⟨by decide, by decide⟩
  obtain ⟨T3, h3, X3, e3, W3, st3⟩ := stB X1 hx hZ e1 Ar3 (j := (0 : Int32)) in3 (g := (mkF m 7 #[.val (.int p0)] [(.int p0.toInt8.toInt32), (.int (0 : Int32)), (.ref b1), (.ref b1)])) rfl rfl (hb hby d16_7)
  have N3 := Fr.snoc X3 N0 gg1
  have Zs3 : n0 ≤ h3.size := Nat.le_trans Zs1 (Keep.of_wr W3).1
  have K3_0 : Keep h0 h3 [] := K1_0.wr W3 (Or.inr sz1_0)
  have f4 : Arv Z h3 b1 k1 .byte (1 : Int32) [(.int (nar .byte p0.toInt8.toInt32))] (.int (0 : Int32)) := Arv.set Ar3 q3 S3 Ng3 H3 G3 (fits_nar_byte _) W3 0 rfl (Nat.le_of_ble_eq_true rfl)
  refine own_go (fun _ k => st3 _ k) ?_
  show own_G _ _ _ (T3.setTop (mkF m 8 #[.val (.int p0)] [(.ref b1)])) _ _ _ _
  exact own_endR X3 hx hlk Bd.returns rfl rfl rfl (hb hby d16_8) (by decide) (by decide) (Q := (Q16 Z p0 h0 n0)) (by rw [e3]; exact ⟨b1, k1, rfl, N3, K3_0, sz1_0, f4⟩)
theorem d17_0 : decode jdk_42_method_151_code 0 = .ok (.aload_n 0, 1) := by decide +kernel
theorem d17_1 : decode jdk_42_method_151_code 1 = .ok (.invokespecial 1, 3) := by decide +kernel
theorem d17_4 : decode jdk_42_method_151_code 4 = .ok (.aload_n 0, 1) := by decide +kernel
theorem d17_5 : decode jdk_42_method_151_code 5 = .ok (.aload_n 1, 1) := by decide +kernel
theorem d17_6 : decode jdk_42_method_151_code 6 = .ok (.putfield 9, 3) := by decide +kernel
theorem d17_9 : decode jdk_42_method_151_code 9 = .ok (.aload_n 0, 1) := by decide +kernel
theorem d17_10 : decode jdk_42_method_151_code 10 = .ok (.iload_n 2, 1) := by decide +kernel
theorem d17_11 : decode jdk_42_method_151_code 11 = .ok (.putfield 15, 3) := by decide +kernel
theorem d17_14 : decode jdk_42_method_151_code 14 = .ok (.return_, 1) := by decide +kernel
theorem pn_1 : plainName "java/lang/String" = true := by first | (simp [plainName, overriddenIn]; done) | decide +kernel
theorem ef_17 (m : MethodId) (p0 : Addr) (p1 : Addr) : entryFrame m #[(.ref p0), (.ref p1), (.int (0 : Int32))] 3 = mkF m 0 #[.val (.ref p0), .val (.ref p1), .val (.int (0 : Int32))] [] := by first | (simp [entryFrame, mkF, argsToLocals, Value.category]; done) | rfl
def Q17 (Z : State) (p0 : Addr) (p1 : Addr) (h0 : Heap) (n0 : Nat) (v : Option Value) (h : Heap) (L : List Loc) : Prop := v = none ∧ Fr n0 L ∧ Keep h0 h [p0] ∧ Exa Z h p0 "java/lang/String"
set_option maxRecDepth 65536 in
set_option maxHeartbeats 40000000 in
theorem rm17 (l : Launch) (Z : State) (a0 : Array Value) (hw : ∀ d ∈ tables_1, d.before a0 Z = true) (ws : List Jvm.Cond) (p0 : Addr) (p1 : Addr) (h0 : Heap) (n0 : Nat) (Z0 : n0 ≤ h0.size) (P_E_p0 : Exa Z h0 p0 "java/lang/String") (P_F_p0_value : Fld Z h0 p0 "java/lang/String" "value" "[B" .null) (P_F_p0_coder : Fld Z h0 p0 "java/lang/String" "coder" "B" (.int (0 : Int32))) (g_p0 : n0 ≤ p0) :
    MetFree l (⟨"java/lang/String", "<init>", "([BB)V"⟩ : MethodName) (head1 (Jvm.Cond.code (⟨"java/lang/String", "<init>", "([BB)V"⟩ : MethodName) jdk_42_method_151_code 3 none :: ws) ({ frames := 1, cells := 0, slots := 0, locals := 12 } : Room)) (fun a U => a = #[(.ref p0), (.ref p1), (.int (0 : Int32))] ∧ Z.Warmed39 U.vm ∧ U.heap = h0) (fun _ _ _ _ _ => True) (fun _ U o U' => ∃ v L, o = .returned v ∧ (Q17 Z p0 p1 h0 n0) v U'.heap L ∧ FrameEnd U o U' L ({ frames := 1, cells := 0, slots := 0, locals := 12 } : Room).cells ({ frames := 1, cells := 0, slots := 0, locals := 12 } : Room).slots) := by
  refine MetFree.of_bodySF (plainFor_of_name pn_1) hisR ?_
  intro p e s m args below meth c s₁ Bd hml0 hP hK
  obtain ⟨rfl, hZ, hh⟩ := hP
  have hx := Bd.exec
  have hby := Bd.bytes
  have hml : c.maxLocals = 3 := hml0
  have hown : s.vm.findClass "java/lang/String" = some m.cls := findClass_of_methodNamed Bd.named
  have hnm := (name_of_methodNamed Bd.named Bd.method).1
  have hlk : meth.locks = false := BodyLoose.notSynchronized Bd
  have X0 : Stand p l e ({ frames := 1, cells := 0, slots := 0, locals := 12 } : Room) s m #[(.ref p0), (.ref p1), (.int (0 : Int32))] below meth c s₁ [] 0 0 := Stand.of_body Bd
  have e0 : s₁.heap = h0 := by rw [← hh, Bd.state]; rfl
  have N0 := Fr.nil n0
  have K0 : Keep h0 h0 [p0] := Keep.refl h0 [p0]
  show own_G p.tables e below (s₁.setTop (entryFrame m #[(.ref p0), (.ref p1), (.int (0 : Int32))] 3)) s ({ frames := 1, cells := 0, slots := 0, locals := 12 } : Room).cells ({ frames := 1, cells := 0, slots := 0, locals := 12 } : Room).slots (Q17 Z p0 p1 h0 n0)
  refine own_go (fun _ k => castTop (ef_17 m p0 p1) k) ?_
  show own_G _ _ _ (s₁.setTop (mkF m 0 #[.val (.ref p0), .val (.ref p1), .val (.int (0 : Int32))] [])) _ _ _ _
  refine own_go (fun _ k => XS.aloadN X0.here hx rfl (hb hby d17_0) rfl rfl k) ?_
  show own_G _ _ _ (s₁.setTop (mkF m 1 #[.val (.ref p0), .val (.ref p1), .val (.int (0 : Int32))] [(.ref p0)])) _ _ _ _
  obtain ⟨T1, X1, e1, st1⟩ := initO X0 hx hZ hown (hw _ (List.mem_of_getElem? (i := 64) rfl)) (hw _ (List.mem_of_getElem? (i := 19) rfl)) (hw _ (List.mem_of_getElem? (i := 20) rfl)) e0 (g := (mkF m 1 #[.val (.ref p0), .val (.ref p1), .val (.int (0 : Int32))] [(.ref p0)])) rfl (by rw [hml]; rfl) rfl (hb hby d17_1) (by decide) (W := 0) (by show 2 * 0 + _ ≤ _; exact Nat.le_of_eq rfl) (by decide)
  refine own_go (fun _ k => st1 _ k) ?_
  show own_G _ _ _ (T1.setTop (mkF m 4 #[.val (.ref p0), .val (.ref p1), .val (.int (0 : Int32))] [])) _ _ _ _
  refine own_go (fun _ k => XS.aloadN X1.here hx rfl (hb hby d17_4) rfl rfl k) ?_
  show own_G _ _ _ (T1.setTop (mkF m 5 #[.val (.ref p0), .val (.ref p1), .val (.int (0 : Int32))] [(.ref p0)])) _ _ _ _
  refine own_go (fun _ k => XS.aloadN X1.here hx rfl (hb hby d17_5) rfl rfl k) ?_
  show own_G _ _ _ (T1.setTop (mkF m 6 #[.val (.ref p0), .val (.ref p1), .val (.int (0 : Int32))] [(.ref p1), (.ref p0)])) _ _ _ _
  obtain ⟨T2, h2, X2, e2, W2, st2⟩ := putF X1 hx hZ hown (host := "") (Or.inl (hw _ (List.mem_of_getElem? (i := 77) rfl))) Via.refl e1 P_F_p0_value P_E_p0 (Or.inr ⟨(hw _ (List.mem_of_getElem? (i := 8) rfl)), rfl, hnm⟩) (hw _ (List.mem_of_getElem? (i := 6) rfl)) (ty := (.array .byte)) (by decide) rfl rfl (g := (mkF m 6 #[.val (.ref p0), .val (.ref p1), .val (.int (0 : Int32))] [(.ref p1), (.ref p0)])) rfl rfl (hb hby d17_6)
  have N2 := Fr.snoc X2 N0 g_p0
  have Zs2 : n0 ≤ h2.size := Nat.le_trans Z0 (Keep.of_wr W2).1
  have K2_0 : Keep h0 h2 [p0] := K0.wr W2 (Or.inl (List.mem_of_getElem? (i := 0) rfl))
  have f3 : Exa Z h2 p0 "java/lang/String" := P_E_p0.wr W2
  have f4 : Fld Z h2 p0 "java/lang/String" "value" "[B" (.ref p1) := P_F_p0_value.same W2
  have f5 : Fld Z h2 p0 "java/lang/String" "coder" "B" (.int (0 : Int32)) := P_F_p0_coder.other W2 (Or.inr (slot_ne (Or.inr (hw _ (List.mem_of_getElem? (i := 9) rfl))) (Or.inr (hw _ (List.mem_of_getElem? (i := 8) rfl))) (by decide) (t := .byte) (t' := (.array .byte)) (by decide) (by decide)))
  refine own_go (fun _ k => st2 _ k) ?_
  show own_G _ _ _ (T2.setTop (mkF m 9 #[.val (.ref p0), .val (.ref p1), .val (.int (0 : Int32))] [])) _ _ _ _
  refine own_go (fun _ k => XS.aloadN X2.here hx rfl (hb hby d17_9) rfl rfl k) ?_
  show own_G _ _ _ (T2.setTop (mkF m 10 #[.val (.ref p0), .val (.ref p1), .val (.int (0 : Int32))] [(.ref p0)])) _ _ _ _
  refine own_go (fun _ k => XS.iloadN X2.here hx rfl (hb hby d17_10) rfl k) ?_
  show own_G _ _ _ (T2.setTop (mkF m 11 #[.val (.ref p0), .val (.ref p1), .val (.int (0 : Int32))] [(.int (0 : Int32)), (.ref p0)])) _ _ _ _
  obtain ⟨T6, h6, X6, e6, W6, st6⟩ := putFN X2 hx hZ hown (hw _ (List.mem_of_getElem? (i := 76) rfl)) Via.refl e2 f5 f3 (Or.inr ⟨(hw _ (List.mem_of_getElem? (i := 9) rfl)), rfl, hnm⟩) (hw _ (List.mem_of_getElem? (i := 6) rfl)) (ty := .byte) (v' := (.int (0 : Int32))) (by decide) rfl rfl (g := (mkF m 11 #[.val (.ref p0), .val (.ref p1), .val (.int (0 : Int32))] [(.int (0 : Int32)), (.ref p0)])) rfl rfl (hb hby d17_11)
  have N6 := Fr.snoc X6 N2 g_p0
  have Zs6 : n0 ≤ h6.size := Nat.le_trans Zs2 (Keep.of_wr W6).1
  have K6_0 : Keep h0 h6 [p0] := K2_0.wr W6 (Or.inl (List.mem_of_getElem? (i := 0) rfl))
  have f7 : Exa Z h6 p0 "java/lang/String" := f3.wr W6
  have f8 : Fld Z h6 p0 "java/lang/String" "value" "[B" (.ref p1) := f4.other W6 (Or.inr (slot_ne (Or.inr (hw _ (List.mem_of_getElem? (i := 8) rfl))) (Or.inr (hw _ (List.mem_of_getElem? (i := 9) rfl))) (by decide) (t := (.array .byte)) (t' := .byte) (by decide) (by decide)))
  have f9 : Fld Z h6 p0 "java/lang/String" "coder" "B" (.int (0 : Int32)) := f5.same W6
  refine own_go (fun _ k => st6 _ k) ?_
  show own_G _ _ _ (T6.setTop (mkF m 14 #[.val (.ref p0), .val (.ref p1), .val (.int (0 : Int32))] [])) _ _ _ _
  exact own_endV X6 hx hlk Bd.returns (hb hby d17_14) (by decide) (by decide) (Q := (Q17 Z p0 p1 h0 n0)) (by rw [e6]; exact ⟨rfl, N6, K6_0, f7⟩)
theorem d14_0 : decode jdk_42_method_139_code 0 = .ok (.getstatic 38, 3) := by decide +kernel
theorem d14_3 : decode jdk_42_method_139_code 3 = .ok (.ifCond .eq 23, 3) := by decide +kernel
theorem d14_6 : decode jdk_42_method_139_code 6 = .ok (.iload_n 0, 1) := by decide +kernel
theorem d14_7 : decode jdk_42_method_139_code 7 = .ok (.invokestatic 1015, 3) := by decide +kernel
theorem d14_10 : decode jdk_42_method_139_code 10 = .ok (.ifCond .eq 16, 3) := by decide +kernel
theorem d14_13 : decode jdk_42_method_139_code 13 = .ok (.new 10, 3) := by decide +kernel
theorem d14_16 : decode jdk_42_method_139_code 16 = .ok (.dup, 1) := by decide +kernel
theorem d14_17 : decode jdk_42_method_139_code 17 = .ok (.iload_n 0, 1) := by decide +kernel
theorem d14_18 : decode jdk_42_method_139_code 18 = .ok (.invokestatic 1018, 3) := by decide +kernel
theorem d14_21 : decode jdk_42_method_139_code 21 = .ok (.iconst 0, 1) := by decide +kernel
theorem d14_22 : decode jdk_42_method_139_code 22 = .ok (.invokespecial 209, 3) := by decide +kernel
theorem d14_25 : decode jdk_42_method_139_code 25 = .ok (.areturn, 1) := by decide +kernel
theorem d14_26 : decode jdk_42_method_139_code 26 = .ok (.new 10, 3) := by decide +kernel
theorem d14_29 : decode jdk_42_method_139_code 29 = .ok (.dup, 1) := by decide +kernel
theorem d14_30 : decode jdk_42_method_139_code 30 = .ok (.iload_n 0, 1) := by decide +kernel
theorem d14_31 : decode jdk_42_method_139_code 31 = .ok (.invokestatic 1021, 3) := by decide +kernel
theorem d14_34 : decode jdk_42_method_139_code 34 = .ok (.iconst 1, 1) := by decide +kernel
theorem d14_35 : decode jdk_42_method_139_code 35 = .ok (.invokespecial 209, 3) := by decide +kernel
theorem d14_38 : decode jdk_42_method_139_code 38 = .ok (.areturn, 1) := by decide +kernel
theorem pd_0 : parseMethodDescriptor "(C)Z" = some ⟨[.char], some .boolean⟩ := by decide +kernel
theorem pd_1 : parseMethodDescriptor "(C)[B" = some ⟨[.char], some (.array .byte)⟩ := by decide +kernel
theorem pd_2 : parseMethodDescriptor "([BB)V" = some ⟨[(.array .byte), .byte], none⟩ := by decide +kernel
theorem ef_14 (m : MethodId) (p0 : Int32) : entryFrame m #[(.int p0)] 1 = mkF m 0 #[.val (.int p0)] [] := by first | (simp [entryFrame, mkF, argsToLocals, Value.category]; done) | rfl
def Q14 (Z : State) (p0 : Int32) (zc : Int32) (h0 : Heap) (n0 : Nat) (v : Option Value) (h : Heap) (L : List Loc) : Prop := ∃ (b : Addr), v = some (.ref b) ∧ Fr n0 L ∧ Keep h0 h [] ∧ Exa Z h b "java/lang/String"
set_option maxRecDepth 65536 in
set_option maxHeartbeats 40000000 in
theorem rm14 (l : Launch) (Z : State) (a0 : Array Value) (hw : ∀ d ∈ tables_1, d.before a0 Z = true) (ws : List Jvm.Cond) (p0 : Int32) (zc : Int32) (h0 : Heap) (n0 : Nat) (Z0 : n0 ≤ h0.size) (P_Old : Old Z n0 h0) (P_ZS_java_lang_String_COMPACT_STRINGS : Sta Z Z.heap "java/lang/String" "COMPACT_STRINGS" "Z" (.int zc)) (hcs : ¬ zc = 0) (hch : ¬ own_can p0 = 0) :
    MetFree l (⟨"java/lang/String", "valueOf", "(C)Ljava/lang/String;"⟩ : MethodName) (head1 (Jvm.Cond.code (⟨"java/lang/String", "valueOf", "(C)Ljava/lang/String;"⟩ : MethodName) jdk_42_method_139_code 1 (some (.object "java/lang/String")) :: ws) ({ frames := 2, cells := 2, slots := 5, locals := 27 } : Room)) (fun a U => a = #[(.int p0)] ∧ Z.Warmed39 U.vm ∧ U.heap = h0) (fun _ _ _ _ _ => True) (fun _ U o U' => ∃ v L, o = .returned v ∧ (Q14 Z p0 zc h0 n0) v U'.heap L ∧ FrameEnd U o U' L ({ frames := 2, cells := 2, slots := 5, locals := 27 } : Room).cells ({ frames := 2, cells := 2, slots := 5, locals := 27 } : Room).slots) := by
  refine MetFree.of_bodySF (plainFor_of_name pn_1) hisR ?_
  intro p e s m args below meth c s₁ Bd hml0 hP hK
  obtain ⟨rfl, hZ, hh⟩ := hP
  have hx := Bd.exec
  have hby := Bd.bytes
  have hml : c.maxLocals = 1 := hml0
  have hown : s.vm.findClass "java/lang/String" = some m.cls := findClass_of_methodNamed Bd.named
  have hnm := (name_of_methodNamed Bd.named Bd.method).1
  have hlk : meth.locks = false := BodyLoose.notSynchronized Bd
  have X0 : Stand p l e ({ frames := 2, cells := 2, slots := 5, locals := 27 } : Room) s m #[(.int p0)] below meth c s₁ [] 0 0 := Stand.of_body Bd
  have e0 : s₁.heap = h0 := by rw [← hh, Bd.state]; rfl
  have N0 := Fr.nil n0
  have K0 : Keep h0 h0 [] := Keep.refl h0 []
  show own_G p.tables e below (s₁.setTop (entryFrame m #[(.int p0)] 1)) s ({ frames := 2, cells := 2, slots := 5, locals := 27 } : Room).cells ({ frames := 2, cells := 2, slots := 5, locals := 27 } : Room).slots (Q14 Z p0 zc h0 n0)
  refine own_go (fun _ k => castTop (ef_14 m p0) k) ?_
  show own_G _ _ _ (s₁.setTop (mkF m 0 #[.val (.int p0)] [])) _ _ _ _
  obtain ⟨T1, X1, e1, st1⟩ := getS2 X0 hx hZ hown (host := "") (Or.inl (hw _ (List.mem_of_getElem? (i := 65) rfl))) Via.refl e0 (P_ZS_java_lang_String_COMPACT_STRINGS.ext P_Old.2) (g := (mkF m 0 #[.val (.int p0)] [])) rfl (hb hby d14_0)
  refine own_go (fun _ k => st1 _ k) ?_
  show own_G _ _ _ (T1.setTop (mkF m 3 #[.val (.int p0)] [(.int zc)])) _ _ _ _
  have hc2 : ¬ (zc = (0 : Int32)) := hcs
  refine own_go (fun _ k => XS.ifNo X1.here hx rfl (hb hby d14_3) rfl ((if0 _ _).trans (feq hc2).1) k) ?_
  show own_G _ _ _ (T1.setTop (mkF m 6 #[.val (.int p0)] [])) _ _ _ _
  refine own_go (fun _ k => XS.iloadN X1.here hx rfl (hb hby d14_6) rfl k) ?_
  show own_G _ _ _ (T1.setTop (mkF m 7 #[.val (.int p0)] [(.int p0)])) _ _ _ _
  obtain ⟨_, _, ⟨T3, L3, k3, n3⟩, -, X3, ⟨Lc3, hQ3, l3, y3, z3⟩, st3⟩ := Jvm.LawKit.callS X1 hx (y := (⟨"java/lang/StringLatin1", "canEncode", "(C)Z"⟩ : MethodName)) hown (mvT hZ (hw _ (List.mem_of_getElem? (i := 86) rfl))) (mvT hZ (hw _ (List.mem_of_getElem? (i := 87) rfl))) (mvT hZ (hw _ (List.mem_of_getElem? (i := 88) rfl))) (mvT hZ (hw _ (List.mem_of_getElem? (i := 89) rfl))) (by decide) (backOf (W := 0) (rm15 l Z a0 hw [] p0 h0 n0) hZ (hw _ (List.mem_of_getElem? (i := 89) rfl)) (hw _ (List.mem_of_getElem? (i := 88) rfl)) (by decide) (by decide)) (g := (mkF m 7 #[.val (.int p0)] [(.int p0)])) rfl (by rw [hml]; rfl) (argsL := [(.int p0)]) (rest := []) (lenOf pd_0 rfl) rfl (by show 2 * 0 + _ ≤ _; exact Nat.le_of_eq rfl) (hb hby d14_7) (fun _ _ => ⟨rfl, e1, (by decide : 0 + 0 ≤ _), (by decide : 0 + 0 ≤ _)⟩)
  dsimp only [Pt.U, Pt.locs, Pt.cells, Pt.slots] at X3 l3 y3 z3 st3 hQ3
  subst l3 y3 z3
  obtain ⟨rfl, Nq3, eh3⟩ := hQ3
  have N3 := Fr.app N0 Nq3
  refine own_go (fun _ k => st3 _ k) ?_
  show own_G _ _ _ (T3.setTop (mkF m 10 #[.val (.int p0)] [(.int (own_can p0))])) _ _ _ _
  have hc4 : ¬ ((own_can p0) = (0 : Int32)) := hch
  refine own_go (fun _ k => XS.ifNo X3.here hx rfl (hb hby d14_10) rfl ((if0 _ _).trans (feq hc4).1) k) ?_
  show own_G _ _ _ (T3.setTop (mkF m 13 #[.val (.int p0)] [])) _ _ _ _
  obtain ⟨T5, h5, X5, e5, E5, A5, D5, -, st5⟩ := newO X3 hx hZ hown (hw _ (List.mem_of_getElem? (i := 90) rfl)) (hw _ (List.mem_of_getElem? (i := 6) rfl)) (hw _ (List.mem_of_getElem? (i := 5) rfl)) eh3 (g := (mkF m 13 #[.val (.int p0)] [])) rfl (hb hby d14_13) (by decide) (by decide)
  obtain ⟨b5, g5⟩ : ∃ z, z = h0.size := ⟨_, rfl⟩
  rw [← g5] at A5 D5 st5
  have gg5 : n0 ≤ b5 := Nat.le_trans Z0 (Nat.le_of_eq g5.symm)
  have sz5_0 : h0.size ≤ b5 := Nat.le_trans K0.1 (Nat.le_of_eq g5.symm)
  have Zs5 : n0 ≤ h5.size := Nat.le_trans Z0 E5.1
  have K5_0 : Keep h0 h5 [] := K0.ext E5
  have f6 : Old Z n0 h5 := P_Old.ext E5
  have f7 : Exa Z h5 b5 "java/lang/String" := A5
  have f8 : Fld Z h5 b5 "java/lang/String" "value" "[B" .null := D5 (Or.inr (hw _ (List.mem_of_getElem? (i := 8) rfl))) (ty := (.array .byte)) (by decide)
  have f9 : Fld Z h5 b5 "java/lang/String" "coder" "B" (.int (0 : Int32)) := D5 (Or.inr (hw _ (List.mem_of_getElem? (i := 9) rfl))) (ty := .byte) (by decide)
  refine own_go (fun _ k => st5 _ k) ?_
  show own_G _ _ _ (T5.setTop (mkF m 16 #[.val (.int p0)] [(.ref b5)])) _ _ _ _
  refine own_go (fun _ k => XS.dup X5.here hx rfl (hb hby d14_16) rfl rfl k) ?_
  show own_G _ _ _ (T5.setTop (mkF m 17 #[.val (.int p0)] [(.ref b5), (.ref b5)])) _ _ _ _
  refine own_go (fun _ k => XS.iloadN X5.here hx rfl (hb hby d14_17) rfl k) ?_
  show own_G _ _ _ (T5.setTop (mkF m 18 #[.val (.int p0)] [(.int p0), (.ref b5), (.ref b5)])) _ _ _ _
  obtain ⟨_, _, ⟨T10, L10, k10, n10⟩, -, X10, ⟨Lc10, hQ10, l10, y10, z10⟩, st10⟩ := Jvm.LawKit.callS X5 hx (y := (⟨"java/lang/StringLatin1", "toBytes", "(C)[B"⟩ : MethodName)) hown (mvT hZ (hw _ (List.mem_of_getElem? (i := 91) rfl))) (mvT hZ (hw _ (List.mem_of_getElem? (i := 92) rfl))) (mvT hZ (hw _ (List.mem_of_getElem? (i := 88) rfl))) (mvT hZ (hw _ (List.mem_of_getElem? (i := 93) rfl))) (by decide) (backOf (W := 2) (rm16 l Z a0 hw [] p0  h5 n0 Zs5 ) hZ (hw _ (List.mem_of_getElem? (i := 93) rfl)) (hw _ (List.mem_of_getElem? (i := 88) rfl)) (by decide) (by decide)) (g := (mkF m 18 #[.val (.int p0)] [(.int p0), (.ref b5), (.ref b5)])) rfl (by rw [hml]; rfl) (argsL := [(.int p0)]) (rest := [(.ref b5), (.ref b5)]) (lenOf pd_1 rfl) rfl (by show 2 * 0 + _ ≤ _; exact Nat.le_of_eq rfl) (hb hby d14_18) (fun _ _ => ⟨rfl, e5, (by decide : 1 + 1 ≤ _), (by decide : 4 + 1 ≤ _)⟩)
  dsimp only [Pt.U, Pt.locs, Pt.cells, Pt.slots] at X10 l10 y10 z10 st10 hQ10
  subst l10 y10 z10
  obtain ⟨b10, kb10, rfl, Nq10, Kq10, r10_0, r10_1⟩ := hQ10
  have N10 := Fr.app N3 Nq10
  have ne11 : b5 ≠ b10 := Nat.ne_of_lt (Nat.lt_of_lt_of_le f7.lt r10_0)
  have gg_b10 : n0 ≤ b10 := Nat.le_trans Zs5 r10_0
  have sz_b10_0 : h0.size ≤ b10 := Nat.le_trans K5_0.1 r10_0
  have f12 : Old Z n0 T10.heap := f6.keep Kq10 all0
  have f13 : Exa Z T10.heap b5 "java/lang/String" := f7.keep Kq10
  have f14 : Fld Z T10.heap b5 "java/lang/String" "value" "[B" .null := f8.keep Kq10 nin0
  have f15 : Fld Z T10.heap b5 "java/lang/String" "coder" "B" (.int (0 : Int32)) := f9.keep Kq10 nin0
  have Zs10 : n0 ≤ T10.heap.size := Nat.le_trans Zs5 Kq10.1
  have K10_0 : Keep h0 T10.heap [] := K5_0.trans Kq10 all0
  refine own_go (fun _ k => st10 _ k) ?_
  show own_G _ _ _ (T10.setTop (mkF m 21 #[.val (.int p0)] [(.ref b10), (.ref b5), (.ref b5)])) _ _ _ _
  refine own_go (fun _ k => XS.iconst X10.here hx rfl (hb hby d14_21) k) ?_
  show own_G _ _ _ (T10.setTop (mkF m 22 #[.val (.int p0)] [(.int (0 : Int32)), (.ref b10), (.ref b5), (.ref b5)])) _ _ _ _
  obtain ⟨_, _, ⟨T16, L16, k16, n16⟩, -, X16, ⟨Lc16, hQ16, l16, y16, z16⟩, st16⟩ := X10.specialBack hx (y := (⟨"java/lang/String", "<init>", "([BB)V"⟩ : MethodName)) rfl hown (mvT hZ (hw _ (List.mem_of_getElem? (i := 94) rfl))) (mvT hZ (hw _ (List.mem_of_getElem? (i := 95) rfl))) (mvT hZ (hw _ (List.mem_of_getElem? (i := 96) rfl))) (by decide) (backOf (W := 1) (rm17 l Z a0 hw [] b5 b10  T10.heap n0 Zs10 f13 f14 f15 gg5) hZ (hw _ (List.mem_of_getElem? (i := 96) rfl)) (hw _ (List.mem_of_getElem? (i := 5) rfl)) (by decide) (by decide)) (g := (mkF m 22 #[.val (.int p0)] [(.int (0 : Int32)), (.ref b10), (.ref b5), (.ref b5)])) rfl (by rw [hml]; rfl) (Steps.refl _) (a := b5) (argsL := [(.ref b10), (.int (0 : Int32))]) (rest := [(.ref b5)]) (lenOf pd_2 rfl) rfl (by show 2 * 0 + _ ≤ _; exact Nat.le_of_eq rfl) (hb hby d14_22) (fun _ _ => ⟨rfl, rfl, (by decide : 2 + 0 ≤ _), (by decide : 5 + 0 ≤ _)⟩)
  dsimp only [Pt.U, Pt.locs, Pt.cells, Pt.slots] at X16 l16 y16 z16 st16 hQ16
  subst l16 y16 z16
  obtain ⟨rfl, Nq16, Kq16, r16_0⟩ := hQ16
  have N16 := Fr.app N10 Nq16
  have f17 : Old Z n0 T16.heap := f12.keep Kq16 (allS gg5 all0)
  have f18 : Exa Z T16.heap b5 "java/lang/String" := f13.keep Kq16
  have f19 : Arv Z T16.heap b10 kb10 .byte (1 : Int32) [(.int (nar .byte p0.toInt8.toInt32))] (.int (0 : Int32)) := r10_1.keep Kq16 (ninS (Ne.symm ne11) nin0)
  have Zs16 : n0 ≤ T16.heap.size := Nat.le_trans Zs10 Kq16.1
  have K16_0 : Keep h0 T16.heap [] := K10_0.trans Kq16 (allS (Or.inr sz5_0) all0)
  refine own_tr st16 ?_
  show own_G _ _ _ (T16.setTop (mkF m 25 #[.val (.int p0)] [(.ref b5)])) _ _ _ _
  exact own_endR X16 hx hlk Bd.returns rfl rfl rfl (hb hby d14_25) (by decide) (by decide) (Q := (Q14 Z p0 zc h0 n0)) ⟨b5, rfl, N16, K16_0, r16_0⟩
theorem d1_0 : decode method_2_code 0 = .ok (.iload_n 0, 1) := by decide +kernel
theorem d1_1 : decode method_2_code 1 = .ok (.iconst 3, 1) := by decide +kernel
theorem d1_2 : decode method_2_code 2 = .ok (.iand, 1) := by decide +kernel
theorem d1_3 : decode method_2_code 3 = .ok (.istore_n 3, 1) := by decide +kernel
theorem d1_4 : decode method_2_code 4 = .ok (.iload_n 3, 1) := by decide +kernel
theorem d1_5 : decode method_2_code 5 = .ok (.ifCond .ne 6, 3) := by decide +kernel
theorem d1_8 : decode method_2_code 8 = .ok (.ldc 7, 2) := by decide +kernel
theorem d1_10 : decode method_2_code 10 = .ok (.areturn, 1) := by decide +kernel
theorem d1_11 : decode method_2_code 11 = .ok (.iload_n 3, 1) := by decide +kernel
theorem d1_12 : decode method_2_code 12 = .ok (.iconst 1, 1) := by decide +kernel
theorem d1_13 : decode method_2_code 13 = .ok (.if_icmp .ne 13, 3) := by decide +kernel
theorem d1_16 : decode method_2_code 16 = .ok (.iload_n 1, 1) := by decide +kernel
theorem d1_17 : decode method_2_code 17 = .ok (.sipush 255, 3) := by decide +kernel
theorem d1_20 : decode method_2_code 20 = .ok (.iand, 1) := by decide +kernel
theorem d1_21 : decode method_2_code 21 = .ok (.i2c, 1) := by decide +kernel
theorem d1_22 : decode method_2_code 22 = .ok (.invokestatic 9, 3) := by decide +kernel
theorem d1_25 : decode method_2_code 25 = .ok (.areturn, 1) := by decide +kernel
theorem d1_26 : decode method_2_code 26 = .ok (.new 10, 3) := by decide +kernel
theorem d1_29 : decode method_2_code 29 = .ok (.dup, 1) := by decide +kernel
theorem d1_30 : decode method_2_code 30 = .ok (.iconst 2, 1) := by decide +kernel
theorem d1_31 : decode method_2_code 31 = .ok (.newarray .char, 2) := by decide +kernel
theorem d1_33 : decode method_2_code 33 = .ok (.dup, 1) := by decide +kernel
theorem d1_34 : decode method_2_code 34 = .ok (.iconst 0, 1) := by decide +kernel
theorem d1_35 : decode method_2_code 35 = .ok (.iload_n 1, 1) := by decide +kernel
theorem d1_36 : decode method_2_code 36 = .ok (.sipush 255, 3) := by decide +kernel
theorem d1_39 : decode method_2_code 39 = .ok (.iand, 1) := by decide +kernel
theorem d1_40 : decode method_2_code 40 = .ok (.i2c, 1) := by decide +kernel
theorem d1_41 : decode method_2_code 41 = .ok (.castore, 1) := by decide +kernel
theorem d1_42 : decode method_2_code 42 = .ok (.dup, 1) := by decide +kernel
theorem d1_43 : decode method_2_code 43 = .ok (.iconst 1, 1) := by decide +kernel
theorem d1_44 : decode method_2_code 44 = .ok (.iload_n 2, 1) := by decide +kernel
theorem d1_45 : decode method_2_code 45 = .ok (.sipush 255, 3) := by decide +kernel
theorem d1_48 : decode method_2_code 48 = .ok (.iand, 1) := by decide +kernel
theorem d1_49 : decode method_2_code 49 = .ok (.i2c, 1) := by decide +kernel
theorem d1_50 : decode method_2_code 50 = .ok (.castore, 1) := by decide +kernel
theorem d1_51 : decode method_2_code 51 = .ok (.invokespecial 15, 3) := by decide +kernel
theorem d1_54 : decode method_2_code 54 = .ok (.areturn, 1) := by decide +kernel
theorem pd_3 : parseMethodDescriptor "(C)Ljava/lang/String;" = some ⟨[.char], some (.object "java/lang/String")⟩ := by decide +kernel
theorem pd_4 : parseMethodDescriptor "([C)V" = some ⟨[(.array .char)], none⟩ := by decide +kernel
theorem pn_2 : plainName "com/example/pacelint/pacelint/io/XmlElementAutosarNamePinLaw" = true := by first | (simp [plainName, overriddenIn]; done) | decide +kernel
theorem ef_1 (m : MethodId) (p0 : Int32) (p1 : Int32) (p2 : Int32) : entryFrame m #[(.int p0), (.int p1), (.int p2)] 4 = mkF m 0 #[.val (.int p0), .val (.int p1), .val (.int p2), .unset] [] := by first | (simp [entryFrame, mkF, argsToLocals, Value.category]; done) | rfl
def Q1 (Z : State) (p0 : Int32) (p1 : Int32) (p2 : Int32) (zc : Int32) (h0 : Heap) (n0 : Nat) (v : Option Value) (h : Heap) (L : List Loc) : Prop := ∃ (b : Addr), v = some (.ref b) ∧ Fr n0 L ∧ Keep h0 h [] ∧ Exa Z h b "java/lang/String"
set_option maxRecDepth 65536 in
set_option maxHeartbeats 40000000 in
theorem rm1 (l : Launch) (Z : State) (a0 : Array Value) (hw : ∀ d ∈ tables_1, d.before a0 Z = true) (ws : List Jvm.Cond) (p0 : Int32) (p1 : Int32) (p2 : Int32) (zc : Int32) (h0 : Heap) (n0 : Nat) (Z0 : n0 ≤ h0.size) (P_Old : Old Z n0 h0) (P_ZS_java_lang_String_COMPACT_STRINGS : Sta Z Z.heap "java/lang/String" "COMPACT_STRINGS" "Z" (.int zc)) (hcs : ¬ zc = 0) :
    MetFree l (⟨"com/example/pacelint/pacelint/io/XmlElementAutosarNamePinLaw", "draw", "(III)Ljava/lang/String;"⟩ : MethodName) (head1 (Jvm.Cond.code (⟨"com/example/pacelint/pacelint/io/XmlElementAutosarNamePinLaw", "draw", "(III)Ljava/lang/String;"⟩ : MethodName) method_2_code 4 (some (.object "java/lang/String")) :: ws) ({ frames := 4, cells := 3, slots := 8, locals := 66 } : Room)) (fun a U => a = #[(.int p0), (.int p1), (.int p2)] ∧ Z.Warmed39 U.vm ∧ U.heap = h0 ∧ CHv Z own_EL U.vm h0) (fun _ _ _ _ _ => True) (fun _ U o U' => ∃ v L, o = .returned v ∧ (Q1 Z p0 p1 p2 zc h0 n0) v U'.heap L ∧ CHr Z own_EL U.vm U.heap U'.vm U'.heap ∧ ReturnedEndW U o U' L ({ frames := 4, cells := 3, slots := 8, locals := 66 } : Room).cells ({ frames := 4, cells := 3, slots := 8, locals := 66 } : Room).slots) := by
  refine MetFree.of_bodySF (plainFor_of_name pn_2) hisR ?_
  intro p e s m args below meth c s₁ Bd hml0 hP hK
  obtain ⟨rfl, hZ, hh, H0⟩ := hP
  have hx := Bd.exec
  have hby := Bd.bytes
  have hml : c.maxLocals = 4 := hml0
  have hown : s.vm.findClass "com/example/pacelint/pacelint/io/XmlElementAutosarNamePinLaw" = some m.cls := findClass_of_methodNamed Bd.named
  have hnm := (name_of_methodNamed Bd.named Bd.method).1
  have hlk : meth.locks = false := BodyLoose.notSynchronized Bd
  have X0 : Stand p l e ({ frames := 4, cells := 3, slots := 8, locals := 66 } : Room) (s.setVm s.vm) m #[(.int p0), (.int p1), (.int p2)] below meth c s₁ [] 0 0 := Stand.of_body Bd
  have e0 : s₁.heap = h0 := by rw [← hh, Bd.state]; rfl
  have N0 := Fr.nil n0
  have hS0 := (State.WarmedH.refl s).since s.heap.size
  have hk0 : s.heap.size ≤ h0.size := by rw [hh]; exact Nat.le_refl _
  have CR0 : CHr Z own_EL s.vm h0 s.vm h0 := CHr.refl H0
  have KS0 : Keep h0 h0 [] := Keep.refl _ _
  have K0 : Keep h0 h0 [] := Keep.refl h0 []
  show own_GW p.tables e below (s₁.setTop (entryFrame m #[(.int p0), (.int p1), (.int p2)] 4)) s ({ frames := 4, cells := 3, slots := 8, locals := 66 } : Room).cells ({ frames := 4, cells := 3, slots := 8, locals := 66 } : Room).slots Z own_EL (Q1 Z p0 p1 p2 zc h0 n0)
  refine own_goW (fun _ k => castTop (ef_1 m p0 p1 p2) k) ?_
  show own_GW _ _ _ (s₁.setTop (mkF m 0 #[.val (.int p0), .val (.int p1), .val (.int p2), .unset] [])) _ _ _ _ _ _
  refine own_goW (fun _ k => XS.iloadN X0.here hx rfl (hb hby d1_0) rfl k) ?_
  show own_GW _ _ _ (s₁.setTop (mkF m 1 #[.val (.int p0), .val (.int p1), .val (.int p2), .unset] [(.int p0)])) _ _ _ _ _ _
  refine own_goW (fun _ k => XS.iconst X0.here hx rfl (hb hby d1_1) k) ?_
  show own_GW _ _ _ (s₁.setTop (mkF m 2 #[.val (.int p0), .val (.int p1), .val (.int p2), .unset] [(.int (3 : Int32)), (.int p0)])) _ _ _ _ _ _
  refine own_goW (fun _ k => XS.iand X0.here hx rfl (hb hby d1_2) rfl k) ?_
  show own_GW _ _ _ (s₁.setTop (mkF m 3 #[.val (.int p0), .val (.int p1), .val (.int p2), .unset] [(.int (p0 &&& (3 : Int32)))])) _ _ _ _ _ _
  refine own_goW (fun _ k => XS.istoreN X0.here hx rfl (hb hby d1_3) rfl (l' := #[.val (.int p0), .val (.int p1), .val (.int p2), .val (.int (p0 &&& (3 : Int32)))]) rfl k) ?_
  show own_GW _ _ _ (s₁.setTop (mkF m 4 #[.val (.int p0), .val (.int p1), .val (.int p2), .val (.int (p0 &&& (3 : Int32)))] [])) _ _ _ _ _ _
  refine own_goW (fun _ k => XS.iloadN X0.here hx rfl (hb hby d1_4) rfl k) ?_
  show own_GW _ _ _ (s₁.setTop (mkF m 5 #[.val (.int p0), .val (.int p1), .val (.int p2), .val (.int (p0 &&& (3 : Int32)))] [(.int (p0 &&& (3 : Int32)))])) _ _ _ _ _ _
  by_cases hc1 : (p0 &&& (3 : Int32)) = (0 : Int32)
  · refine own_goW (fun _ k => XS.ifNo X0.here hx rfl (hb hby d1_5) rfl ((if0 _ _).trans (teq hc1).2) k) ?_
    show own_GW _ _ _ (s₁.setTop (mkF m 8 #[.val (.int p0), .val (.int p1), .val (.int p2), .val (.int (p0 &&& (3 : Int32)))] [])) _ _ _ _ _ _
    have CQ2 := CR0.trans (CHr.keep KS0 all0 CR0.1)
    obtain ⟨a2, T2, h2, k12, b2, kb2, X2, e2, E2, hS2, hk2, hZ, hown, xa2, cd2, vl2, vb2, la2, lb2, CC2, Lt2, nea2, st2⟩ := ldcCH X0 hx hZ hown (hw _ (List.mem_of_getElem? (i := 4) rfl)) (own_wS hw) e0 hS0 (Nat.le_trans hk0 KS0.1) (own_EW hw) (by simp [own_EL]) CQ2.1 (vs := []) (z := (0 : Int32)) ⟨by decide, rfl⟩ (by decide) rfl (g := (mkF m 8 #[.val (.int p0), .val (.int p1), .val (.int p2), .val (.int (p0 &&& (3 : Int32)))] [])) rfl (hb hby d1_8) (n := 0) (by decide) (by decide) (by decide) (by decide)
    have CR2 := CQ2.trans CC2
    have Zs2 : n0 ≤ h2.size := Nat.le_trans Z0 E2.1
    have K2_0 : Keep h0 h2 [] := K0.ext E2
    have f3 : Old Z n0 h2 := P_Old.ext E2
    have KS2 : Keep h2 h2 [] := Keep.refl _ _
    refine own_goW (fun _ k => st2 _ k) ?_
    show own_GW _ _ _ (T2.setTop (mkF m 10 #[.val (.int p0), .val (.int p1), .val (.int p2), .val (.int (p0 &&& (3 : Int32)))] [(.ref a2)])) _ _ _ _ _ _
    have CQ4 := CR2.trans (CHr.keep KS2 all0 CR2.1)
    have CE4 : CHr Z own_EL s.vm s.heap T2.vm T2.heap := by rw [hh, show T2.heap = h2 from e2]; exact CQ4.trans (CHv.at X2 hZ (own_EW hw) CQ4.1)
    exact own_endWO X2 hx hlk Bd.returns rfl (Or.inr (Or.inr (Or.inr (Or.inr ⟨rfl, rfl, rfl⟩)))) (hb hby d1_10) hS2 (show _ ≤ T2.heap.size by rw [show T2.heap = h2 from e2]; exact (Nat.le_trans hk2 KS2.1)) (by decide) (by decide) CE4 (Q := (Q1 Z p0 p1 p2 zc h0 n0)) (by rw [e2]; exact ⟨a2, rfl, N0, K2_0, xa2⟩)
  · refine own_goW (fun _ k => XS.ifYes X0.here hx rfl (pc0 := 5) (pc' := 11) rfl (hb hby d1_5) rfl ((if0 _ _).trans (feq hc1).2) (by decide) (by decide) k) ?_
    show own_GW _ _ _ (s₁.setTop (mkF m 11 #[.val (.int p0), .val (.int p1), .val (.int p2), .val (.int (p0 &&& (3 : Int32)))] [])) _ _ _ _ _ _
    refine own_goW (fun _ k => XS.iloadN X0.here hx rfl (hb hby d1_11) rfl k) ?_
    show own_GW _ _ _ (s₁.setTop (mkF m 12 #[.val (.int p0), .val (.int p1), .val (.int p2), .val (.int (p0 &&& (3 : Int32)))] [(.int (p0 &&& (3 : Int32)))])) _ _ _ _ _ _
    refine own_goW (fun _ k => XS.iconst X0.here hx rfl (hb hby d1_12) k) ?_
    show own_GW _ _ _ (s₁.setTop (mkF m 13 #[.val (.int p0), .val (.int p1), .val (.int p2), .val (.int (p0 &&& (3 : Int32)))] [(.int (1 : Int32)), (.int (p0 &&& (3 : Int32)))])) _ _ _ _ _ _
    by_cases hc5 : (p0 &&& (3 : Int32)) = (1 : Int32)
    · refine own_goW (fun _ k => XS.icmpNo X0.here hx rfl (hb hby d1_13) rfl (teq hc5).2 k) ?_
      show own_GW _ _ _ (s₁.setTop (mkF m 16 #[.val (.int p0), .val (.int p1), .val (.int p2), .val (.int (p0 &&& (3 : Int32)))] [])) _ _ _ _ _ _
      refine own_goW (fun _ k => XS.iloadN X0.here hx rfl (hb hby d1_16) rfl k) ?_
      show own_GW _ _ _ (s₁.setTop (mkF m 17 #[.val (.int p0), .val (.int p1), .val (.int p2), .val (.int (p0 &&& (3 : Int32)))] [(.int p1)])) _ _ _ _ _ _
      refine own_goW (fun _ k => XS.sipush X0.here hx rfl (hb hby d1_17) k) ?_
      show own_GW _ _ _ (s₁.setTop (mkF m 20 #[.val (.int p0), .val (.int p1), .val (.int p2), .val (.int (p0 &&& (3 : Int32)))] [(.int (255 : Int32)), (.int p1)])) _ _ _ _ _ _
      refine own_goW (fun _ k => XS.iand X0.here hx rfl (hb hby d1_20) rfl k) ?_
      show own_GW _ _ _ (s₁.setTop (mkF m 21 #[.val (.int p0), .val (.int p1), .val (.int p2), .val (.int (p0 &&& (3 : Int32)))] [(.int (p1 &&& (255 : Int32)))])) _ _ _ _ _ _
      refine own_goW (fun _ k => XS.i2c X0.here hx rfl (hb hby d1_21) rfl k) ?_
      show own_GW _ _ _ (s₁.setTop (mkF m 22 #[.val (.int p0), .val (.int p1), .val (.int p2), .val (.int (p0 &&& (3 : Int32)))] [(.int (p1 &&& (255 : Int32)).toUInt32.toUInt16.toUInt32.toInt32)])) _ _ _ _ _ _
      obtain ⟨_, _, ⟨T6, L6, k6, n6⟩, -, X6, ⟨Lc6, hQ6, l6, y6, z6⟩, st6⟩ := Jvm.LawKit.callS X0 hx (y := (⟨"java/lang/String", "valueOf", "(C)Ljava/lang/String;"⟩ : MethodName)) hown (mvT hZ (hw _ (List.mem_of_getElem? (i := 83) rfl))) (mvT hZ (hw _ (List.mem_of_getElem? (i := 84) rfl))) (mvT hZ (hw _ (List.mem_of_getElem? (i := 5) rfl))) (mvT hZ (hw _ (List.mem_of_getElem? (i := 85) rfl))) (by decide) (backOf (W := 0) (rm14 l Z a0 hw [] ((p1 &&& (255 : Int32)).toUInt32.toUInt16.toUInt32.toInt32) zc h0 n0 Z0 P_Old P_ZS_java_lang_String_COMPACT_STRINGS hcs (own_c255 p1)) hZ (hw _ (List.mem_of_getElem? (i := 85) rfl)) (hw _ (List.mem_of_getElem? (i := 5) rfl)) (by decide) (by decide)) (g := (mkF m 22 #[.val (.int p0), .val (.int p1), .val (.int p2), .val (.int (p0 &&& (3 : Int32)))] [(.int (p1 &&& (255 : Int32)).toUInt32.toUInt16.toUInt32.toInt32)])) rfl (by rw [hml]; rfl) (argsL := [(.int (p1 &&& (255 : Int32)).toUInt32.toUInt16.toUInt32.toInt32)]) (rest := []) (lenOf pd_3 rfl) rfl (by show 2 * 0 + _ ≤ _; exact Nat.le_of_eq rfl) (hb hby d1_22) (fun _ _ => ⟨rfl, e0, (by decide : 0 + 2 ≤ _), (by decide : 0 + 5 ≤ _)⟩)
      dsimp only [Pt.U, Pt.locs, Pt.cells, Pt.slots] at X6 l6 y6 z6 st6 hQ6
      subst l6 y6 z6
      obtain ⟨b6, rfl, Nq6, Kq6, r6_0⟩ := hQ6
      have N6 := Fr.app N0 Nq6
      have f7 : Old Z n0 T6.heap := P_Old.keep Kq6 all0
      have Zs6 : n0 ≤ T6.heap.size := Nat.le_trans Z0 Kq6.1
      have K6_0 : Keep h0 T6.heap [] := K0.trans Kq6 all0
      have K6_1 : Keep h0 T6.heap [] := KS0.trans Kq6 all0
      refine own_goW (fun _ k => st6 _ k) ?_
      show own_GW _ _ _ (T6.setTop (mkF m 25 #[.val (.int p0), .val (.int p1), .val (.int p2), .val (.int (p0 &&& (3 : Int32)))] [(.ref b6)])) _ _ _ _ _ _
      have CQ8 := CR0.trans (CHr.keep K6_1 all0 CR0.1)
      have CE8 : CHr Z own_EL s.vm s.heap T6.vm T6.heap := by rw [hh, show T6.heap = T6.heap from rfl]; exact CQ8.trans (CHv.at X6 hZ (own_EW hw) CQ8.1)
      exact own_endWO X6 hx hlk Bd.returns rfl (Or.inr (Or.inr (Or.inr (Or.inr ⟨rfl, rfl, rfl⟩)))) (hb hby d1_25) hS0 (show _ ≤ T6.heap.size by rw [show T6.heap = T6.heap from rfl]; exact (Nat.le_trans hk0 K6_1.1)) (by decide) (by decide) CE8 (Q := (Q1 Z p0 p1 p2 zc h0 n0)) ⟨b6, rfl, N6, K6_0, r6_0⟩
    · refine own_goW (fun _ k => XS.icmpYes X0.here hx rfl (pc0 := 13) (pc' := 26) rfl (hb hby d1_13) rfl (feq hc5).2 (by decide) (by decide) k) ?_
      show own_GW _ _ _ (s₁.setTop (mkF m 26 #[.val (.int p0), .val (.int p1), .val (.int p2), .val (.int (p0 &&& (3 : Int32)))] [])) _ _ _ _ _ _
      obtain ⟨T9, h9, X9, e9, E9, A9, D9, -, st9⟩ := newO X0 hx hZ hown (hw _ (List.mem_of_getElem? (i := 55) rfl)) (hw _ (List.mem_of_getElem? (i := 6) rfl)) (hw _ (List.mem_of_getElem? (i := 5) rfl)) e0 (g := (mkF m 26 #[.val (.int p0), .val (.int p1), .val (.int p2), .val (.int (p0 &&& (3 : Int32)))] [])) rfl (hb hby d1_26) (by decide) (by decide)
      obtain ⟨b9, g9⟩ : ∃ z, z = h0.size := ⟨_, rfl⟩
      rw [← g9] at A9 D9 st9
      have gg9 : n0 ≤ b9 := Nat.le_trans Z0 (Nat.le_of_eq g9.symm)
      have sz9_0 : h0.size ≤ b9 := Nat.le_trans K0.1 (Nat.le_of_eq g9.symm)
      have sz9_1 : h0.size ≤ b9 := Nat.le_trans KS0.1 (Nat.le_of_eq g9.symm)
      have Zs9 : n0 ≤ h9.size := Nat.le_trans Z0 E9.1
      have K9_0 : Keep h0 h9 [] := K0.ext E9
      have K9_1 : Keep h0 h9 [] := KS0.ext E9
      have f10 : Old Z n0 h9 := P_Old.ext E9
      have f11 : Exa Z h9 b9 "java/lang/String" := A9
      have f12 : Fld Z h9 b9 "java/lang/String" "value" "[B" .null := D9 (Or.inr (hw _ (List.mem_of_getElem? (i := 8) rfl))) (ty := (.array .byte)) (by decide)
      have f13 : Fld Z h9 b9 "java/lang/String" "coder" "B" (.int (0 : Int32)) := D9 (Or.inr (hw _ (List.mem_of_getElem? (i := 9) rfl))) (ty := .byte) (by decide)
      refine own_goW (fun _ k => st9 _ k) ?_
      show own_GW _ _ _ (T9.setTop (mkF m 29 #[.val (.int p0), .val (.int p1), .val (.int p2), .val (.int (p0 &&& (3 : Int32)))] [(.ref b9)])) _ _ _ _ _ _
      refine own_goW (fun _ k => XS.dup X9.here hx rfl (hb hby d1_29) rfl rfl k) ?_
      show own_GW _ _ _ (T9.setTop (mkF m 30 #[.val (.int p0), .val (.int p1), .val (.int p2), .val (.int (p0 &&& (3 : Int32)))] [(.ref b9), (.ref b9)])) _ _ _ _ _ _
      refine own_goW (fun _ k => XS.iconst X9.here hx rfl (hb hby d1_30) k) ?_
      show own_GW _ _ _ (T9.setTop (mkF m 31 #[.val (.int p0), .val (.int p1), .val (.int p2), .val (.int (p0 &&& (3 : Int32)))] [(.int (2 : Int32)), (.ref b9), (.ref b9)])) _ _ _ _ _ _
      obtain ⟨T14, h14, k14, X14, e14, E14, A14, st14⟩ := newP X9 hx hZ (hw _ (List.mem_of_getElem? (i := 56) rfl)) e9 (g := (mkF m 31 #[.val (.int p0), .val (.int p1), .val (.int p2), .val (.int (p0 &&& (3 : Int32)))] [(.int (2 : Int32)), (.ref b9), (.ref b9)])) rfl (hb hby d1_31) rfl (by decide) (cap := 2) (by decide) (by decide) (by decide) (by decide)
      obtain ⟨b14, g14⟩ : ∃ z, z = h9.size := ⟨_, rfl⟩
      rw [← g14] at A14 st14
      have ne15 : b9 ≠ b14 := Nat.ne_of_lt (Nat.lt_of_lt_of_le f11.lt (Nat.le_of_eq g14.symm))
      have gg14 : n0 ≤ b14 := Nat.le_trans Zs9 (Nat.le_of_eq g14.symm)
      have sz14_0 : h0.size ≤ b14 := Nat.le_trans K9_0.1 (Nat.le_of_eq g14.symm)
      have sz14_1 : h0.size ≤ b14 := Nat.le_trans K9_1.1 (Nat.le_of_eq g14.symm)
      have Zs14 : n0 ≤ h14.size := Nat.le_trans Zs9 E14.1
      have K14_0 : Keep h0 h14 [] := K9_0.ext E14
      have K14_1 : Keep h0 h14 [] := K9_1.ext E14
      have f16 : Old Z n0 h14 := f10.ext E14
      have f17 : Exa Z h14 b9 "java/lang/String" := f11.ext E14
      have f18 : Fld Z h14 b9 "java/lang/String" "value" "[B" .null := f12.ext E14
      have f19 : Fld Z h14 b9 "java/lang/String" "coder" "B" (.int (0 : Int32)) := f13.ext E14
      have f20 : Arv Z h14 b14 k14 .char (2 : Int32) [(.int (0 : Int32)), (.int (0 : Int32))] (.int (0 : Int32)) := (Arv.new A14 (by decide)).pad (pad_rep [] (.int (0 : Int32)) 2)
      refine own_goW (fun _ k => st14 _ k) ?_
      show own_GW _ _ _ (T14.setTop (mkF m 33 #[.val (.int p0), .val (.int p1), .val (.int p2), .val (.int (p0 &&& (3 : Int32)))] [(.ref b14), (.ref b9), (.ref b9)])) _ _ _ _ _ _
      refine own_goW (fun _ k => XS.dup X14.here hx rfl (hb hby d1_33) rfl rfl k) ?_
      show own_GW _ _ _ (T14.setTop (mkF m 34 #[.val (.int p0), .val (.int p1), .val (.int p2), .val (.int (p0 &&& (3 : Int32)))] [(.ref b14), (.ref b14), (.ref b9), (.ref b9)])) _ _ _ _ _ _
      refine own_goW (fun _ k => XS.iconst X14.here hx rfl (hb hby d1_34) k) ?_
      show own_GW _ _ _ (T14.setTop (mkF m 35 #[.val (.int p0), .val (.int p1), .val (.int p2), .val (.int (p0 &&& (3 : Int32)))] [(.int (0 : Int32)), (.ref b14), (.ref b14), (.ref b9), (.ref b9)])) _ _ _ _ _ _
      refine own_goW (fun _ k => XS.iloadN X14.here hx rfl (hb hby d1_35) rfl k) ?_
      show own_GW _ _ _ (T14.setTop (mkF m 36 #[.val (.int p0), .val (.int p1), .val (.int p2), .val (.int (p0 &&& (3 : Int32)))] [(.int p1), (.int (0 : Int32)), (.ref b14), (.ref b14), (.ref b9), (.ref b9)])) _ _ _ _ _ _
      refine own_goW (fun _ k => XS.sipush X14.here hx rfl (hb hby d1_36) k) ?_
      show own_GW _ _ _ (T14.setTop (mkF m 39 #[.val (.int p0), .val (.int p1), .val (.int p2), .val (.int (p0 &&& (3 : Int32)))] [(.int (255 : Int32)), (.int p1), (.int (0 : Int32)), (.ref b14), (.ref b14), (.ref b9), (.ref b9)])) _ _ _ _ _ _
      refine own_goW (fun _ k => XS.iand X14.here hx rfl (hb hby d1_39) rfl k) ?_
      show own_GW _ _ _ (T14.setTop (mkF m 40 #[.val (.int p0), .val (.int p1), .val (.int p2), .val (.int (p0 &&& (3 : Int32)))] [(.int (p1 &&& (255 : Int32))), (.int (0 : Int32)), (.ref b14), (.ref b14), (.ref b9), (.ref b9)])) _ _ _ _ _ _
      refine own_goW (fun _ k => XS.i2c X14.here hx rfl (hb hby d1_40) rfl k) ?_
      show own_GW _ _ _ (T14.setTop (mkF m 41 #[.val (.int p0), .val (.int p1), .val (.int p2), .val (.int (p0 &&& (3 : Int32)))] [(.int (p1 &&& (255 : Int32)).toUInt32.toUInt16.toUInt32.toInt32), (.int (0 : Int32)), (.ref b14), (.ref b14), (.ref b9), (.ref b9)])) _ _ _ _ _ _
      obtain ⟨cl21, Ar21, q21, S21, Ng21, H21, G21⟩ := id f20
      have in21 : ¬ ((0 : Int32) < 0 ∨ cl21.slots.size ≤ ((0 : Int32)).toNatClampNeg) := inb_of S21 ⟨by decide, by decide⟩
      obtain ⟨T21, h21, X21, e21, W21, st21⟩ := stC X14 hx hZ e14 Ar21 (j := (0 : Int32)) in21 (g := (mkF m 41 #[.val (.int p0), .val (.int p1), .val (.int p2), .val (.int (p0 &&& (3 : Int32)))] [(.int (p1 &&& (255 : Int32)).toUInt32.toUInt16.toUInt32.toInt32), (.int (0 : Int32)), (.ref b14), (.ref b14), (.ref b9), (.ref b9)])) rfl rfl (hb hby d1_41)
      have N21 := Fr.snoc X21 N0 gg14
      have Zs21 : n0 ≤ h21.size := Nat.le_trans Zs14 (Keep.of_wr W21).1
      have K21_0 : Keep h0 h21 [] := K14_0.wr W21 (Or.inr sz14_0)
      have K21_1 : Keep h0 h21 [] := K14_1.wr W21 (Or.inr sz14_1)
      have f22 : Old Z n0 h21 := f16.wr W21 gg14
      have f23 : Exa Z h21 b9 "java/lang/String" := f17.wr W21
      have f24 : Fld Z h21 b9 "java/lang/String" "value" "[B" .null := f18.other W21 (Or.inl ne15)
      have f25 : Fld Z h21 b9 "java/lang/String" "coder" "B" (.int (0 : Int32)) := f19.other W21 (Or.inl ne15)
      have f26 : Arv Z h21 b14 k14 .char (2 : Int32) [(.int (nar .char (p1 &&& (255 : Int32)).toUInt32.toUInt16.toUInt32.toInt32)), (.int (0 : Int32))] (.int (0 : Int32)) := Arv.set Ar21 q21 S21 Ng21 H21 G21 (fits_nar_char _) W21 0 rfl (Nat.le_of_ble_eq_true rfl)
      refine own_goW (fun _ k => st21 _ k) ?_
      show own_GW _ _ _ (T21.setTop (mkF m 42 #[.val (.int p0), .val (.int p1), .val (.int p2), .val (.int (p0 &&& (3 : Int32)))] [(.ref b14), (.ref b9), (.ref b9)])) _ _ _ _ _ _
      refine own_goW (fun _ k => XS.dup X21.here hx rfl (hb hby d1_42) rfl rfl k) ?_
      show own_GW _ _ _ (T21.setTop (mkF m 43 #[.val (.int p0), .val (.int p1), .val (.int p2), .val (.int (p0 &&& (3 : Int32)))] [(.ref b14), (.ref b14), (.ref b9), (.ref b9)])) _ _ _ _ _ _
      refine own_goW (fun _ k => XS.iconst X21.here hx rfl (hb hby d1_43) k) ?_
      show own_GW _ _ _ (T21.setTop (mkF m 44 #[.val (.int p0), .val (.int p1), .val (.int p2), .val (.int (p0 &&& (3 : Int32)))] [(.int (1 : Int32)), (.ref b14), (.ref b14), (.ref b9), (.ref b9)])) _ _ _ _ _ _
      refine own_goW (fun _ k => XS.iloadN X21.here hx rfl (hb hby d1_44) rfl k) ?_
      show own_GW _ _ _ (T21.setTop (mkF m 45 #[.val (.int p0), .val (.int p1), .val (.int p2), .val (.int (p0 &&& (3 : Int32)))] [(.int p2), (.int (1 : Int32)), (.ref b14), (.ref b14), (.ref b9), (.ref b9)])) _ _ _ _ _ _
      refine own_goW (fun _ k => XS.sipush X21.here hx rfl (hb hby d1_45) k) ?_
      show own_GW _ _ _ (T21.setTop (mkF m 48 #[.val (.int p0), .val (.int p1), .val (.int p2), .val (.int (p0 &&& (3 : Int32)))] [(.int (255 : Int32)), (.int p2), (.int (1 : Int32)), (.ref b14), (.ref b14), (.ref b9), (.ref b9)])) _ _ _ _ _ _
      refine own_goW (fun _ k => XS.iand X21.here hx rfl (hb hby d1_48) rfl k) ?_
      show own_GW _ _ _ (T21.setTop (mkF m 49 #[.val (.int p0), .val (.int p1), .val (.int p2), .val (.int (p0 &&& (3 : Int32)))] [(.int (p2 &&& (255 : Int32))), (.int (1 : Int32)), (.ref b14), (.ref b14), (.ref b9), (.ref b9)])) _ _ _ _ _ _
      refine own_goW (fun _ k => XS.i2c X21.here hx rfl (hb hby d1_49) rfl k) ?_
      show own_GW _ _ _ (T21.setTop (mkF m 50 #[.val (.int p0), .val (.int p1), .val (.int p2), .val (.int (p0 &&& (3 : Int32)))] [(.int (p2 &&& (255 : Int32)).toUInt32.toUInt16.toUInt32.toInt32), (.int (1 : Int32)), (.ref b14), (.ref b14), (.ref b9), (.ref b9)])) _ _ _ _ _ _
      obtain ⟨cl27, Ar27, q27, S27, Ng27, H27, G27⟩ := id f26
      have in27 : ¬ ((1 : Int32) < 0 ∨ cl27.slots.size ≤ ((1 : Int32)).toNatClampNeg) := inb_of S27 ⟨by decide, by decide⟩
      obtain ⟨T27, h27, X27, e27, W27, st27⟩ := stC X21 hx hZ e21 Ar27 (j := (1 : Int32)) in27 (g := (mkF m 50 #[.val (.int p0), .val (.int p1), .val (.int p2), .val (.int (p0 &&& (3 : Int32)))] [(.int (p2 &&& (255 : Int32)).toUInt32.toUInt16.toUInt32.toInt32), (.int (1 : Int32)), (.ref b14), (.ref b14), (.ref b9), (.ref b9)])) rfl rfl (hb hby d1_50)
      have N27 := Fr.snoc X27 N21 gg14
      have Zs27 : n0 ≤ h27.size := Nat.le_trans Zs21 (Keep.of_wr W27).1
      have K27_0 : Keep h0 h27 [] := K21_0.wr W27 (Or.inr sz14_0)
      have K27_1 : Keep h0 h27 [] := K21_1.wr W27 (Or.inr sz14_1)
      have f28 : Old Z n0 h27 := f22.wr W27 gg14
      have f29 : Exa Z h27 b9 "java/lang/String" := f23.wr W27
      have f30 : Fld Z h27 b9 "java/lang/String" "value" "[B" .null := f24.other W27 (Or.inl ne15)
      have f31 : Fld Z h27 b9 "java/lang/String" "coder" "B" (.int (0 : Int32)) := f25.other W27 (Or.inl ne15)
      have f32 : Arv Z h27 b14 k14 .char (2 : Int32) [(.int (nar .char (p1 &&& (255 : Int32)).toUInt32.toUInt16.toUInt32.toInt32)), (.int (nar .char (p2 &&& (255 : Int32)).toUInt32.toUInt16.toUInt32.toInt32))] (.int (0 : Int32)) := Arv.set Ar27 q27 S27 Ng27 H27 G27 (fits_nar_char _) W27 1 rfl (Nat.le_of_ble_eq_true rfl)
      refine own_goW (fun _ k => st27 _ k) ?_
      show own_GW _ _ _ (T27.setTop (mkF m 51 #[.val (.int p0), .val (.int p1), .val (.int p2), .val (.int (p0 &&& (3 : Int32)))] [(.ref b14), (.ref b9), (.ref b9)])) _ _ _ _ _ _
      have hp33 : ∀ c ∈ ([(nar .char (p1 &&& (255 : Int32)).toUInt32.toUInt16.toUInt32.toInt32), (nar .char (p2 &&& (255 : Int32)).toUInt32.toUInt16.toUInt32.toInt32)] : List Int32), ¬ c < 0 ∧ ¬ (255 : Int32) < c := (fun c hc => by
      simp only [List.mem_cons, List.not_mem_nil, or_false] at hc
      rcases hc with rfl | rfl <;> exact own_r255 _)
      have hws33 : ∀ d ∈ StrChars.Road.words, d.before a0 Z = true := fun d hd => hw d (own_words d hd)
      obtain ⟨_, _, ⟨T33, L33, k33, n33⟩, -, X33, ⟨Lc33, hQ33, l33, y33, z33⟩, st33⟩ := X27.specialBack hx (y := (⟨"java/lang/String", "<init>", "([C)V"⟩ : MethodName)) rfl hown (mvT hZ (hw _ (List.mem_of_getElem? (i := 57) rfl))) (mvT hZ (hw _ (List.mem_of_getElem? (i := 58) rfl))) (mvT hZ (hw _ (List.mem_of_getElem? (i := 59) rfl))) (by decide) (StrChars.Road.backV (W := 1) hZ hws33 (kI := 4) (hw _ (List.mem_of_getElem? (i := 6) rfl)) (cs := ([(nar .char (p1 &&& (255 : Int32)).toUInt32.toUInt16.toUInt32.toInt32), (nar .char (p2 &&& (255 : Int32)).toUInt32.toUInt16.toUInt32.toInt32)] : List Int32)) (bs := ([(nar .char (p1 &&& (255 : Int32)).toUInt32.toUInt16.toUInt32.toInt32), (nar .char (p2 &&& (255 : Int32)).toUInt32.toUInt16.toUInt32.toInt32)] : List Int32).map (fun c => c.toInt8.toInt32)) (n := 2) gg9 Zs27 f29 f30 f31 f32 (P_ZS_java_lang_String_COMPACT_STRINGS.ext f28.2) hcs rfl rfl (by decide) (by decide) hp33 rfl (by decide) (by decide)) (g := (mkF m 51 #[.val (.int p0), .val (.int p1), .val (.int p2), .val (.int (p0 &&& (3 : Int32)))] [(.ref b14), (.ref b9), (.ref b9)])) rfl (by rw [hml]; rfl) (Steps.refl _) (a := b9) (argsL := [(.ref b14)]) (rest := [(.ref b9)]) (lenOf pd_4 rfl) rfl (by show 2 * 0 + _ ≤ _; exact Nat.le_of_eq rfl) (hb hby d1_51) (fun _ _ => ⟨rfl, e27, (by decide : 2 + 1 ≤ _), (by decide : 6 + 2 ≤ _)⟩)
      dsimp only [Pt.U, Pt.locs, Pt.cells, Pt.slots] at X33 l33 y33 z33 st33 hQ33
      subst l33 y33 z33
      obtain ⟨rfl, Nq33, Kq33, xs33, cd33, t33, kb33, nt33, ht33, nx33, vl33, vb33⟩ := hQ33
      have N33 := Fr.app N27 Nq33
      have ne34 : b9 ≠ t33 := Nat.ne_of_lt (Nat.lt_of_lt_of_le f29.lt ht33)
      have ne35 : b14 ≠ t33 := Nat.ne_of_lt (Nat.lt_of_lt_of_le f32.lt ht33)
      have sz_t33_0 : h0.size ≤ t33 := Nat.le_trans K27_0.1 ht33
      have sz_t33_1 : h0.size ≤ t33 := Nat.le_trans K27_1.1 ht33
      have f36 : Old Z n0 T33.heap := f28.keep Kq33 (allS gg9 all0)
      have f37 : Exa Z T33.heap b9 "java/lang/String" := f29.keep Kq33
      have f38 : Arv Z T33.heap b14 k14 .char (2 : Int32) [(.int (nar .char (p1 &&& (255 : Int32)).toUInt32.toUInt16.toUInt32.toInt32)), (.int (nar .char (p2 &&& (255 : Int32)).toUInt32.toUInt16.toUInt32.toInt32))] (.int (0 : Int32)) := f32.keep Kq33 (ninS (Ne.symm ne15) nin0)
      have Zs33 : n0 ≤ T33.heap.size := Nat.le_trans Zs27 Kq33.1
      have K33_0 : Keep h0 T33.heap [] := K27_0.trans Kq33 (allS (Or.inr sz9_0) all0)
      have K33_1 : Keep h0 T33.heap [] := K27_1.trans Kq33 (allS (Or.inr sz9_1) all0)
      have f39 : Arv Z T33.heap t33 kb33 .byte (2 : Int32) [(.int ((nar .char (p1 &&& (255 : Int32)).toUInt32.toUInt16.toUInt32.toInt32)).toInt8.toInt32), (.int ((nar .char (p2 &&& (255 : Int32)).toUInt32.toUInt16.toUInt32.toInt32)).toInt8.toInt32)] (.int (0 : Int32)) := vb33
      refine own_trW st33 ?_
      show own_GW _ _ _ (T33.setTop (mkF m 54 #[.val (.int p0), .val (.int p1), .val (.int p2), .val (.int (p0 &&& (3 : Int32)))] [(.ref b9)])) _ _ _ _ _ _
      have CQ40 := CR0.trans (CHr.keep K33_1 all0 CR0.1)
      have CE40 : CHr Z own_EL s.vm s.heap T33.vm T33.heap := by rw [hh, show T33.heap = T33.heap from rfl]; exact CQ40.trans (CHv.at X33 hZ (own_EW hw) CQ40.1)
      exact own_endWO X33 hx hlk Bd.returns rfl (Or.inr (Or.inr (Or.inr (Or.inr ⟨rfl, rfl, rfl⟩)))) (hb hby d1_54) hS0 (show _ ≤ T33.heap.size by rw [show T33.heap = T33.heap from rfl]; exact (Nat.le_trans hk0 K33_1.1)) (by decide) (by decide) CE40 (Q := (Q1 Z p0 p1 p2 zc h0 n0)) ⟨b9, rfl, N33, K33_0, xs33⟩
theorem d4_0 : decode jdk_40_method_36_code 0 = .ok (.getstatic 90, 3) := by decide +kernel
theorem d4_3 : decode jdk_40_method_36_code 3 = .ok (.areturn, 1) := by decide +kernel
theorem pn_3 : plainName "java/util/List" = true := by first | (simp [plainName, overriddenIn]; done) | decide +kernel
theorem ef_4 (m : MethodId)  : entryFrame m #[] 0 = mkF m 0 #[] [] := by first | (simp [entryFrame, mkF, argsToLocals, Value.category]; done) | rfl
def Q4 (Z : State) (el : Addr) (h0 : Heap) (n0 : Nat) (v : Option Value) (h : Heap) (L : List Loc) : Prop := v = some (.ref el) ∧ Fr n0 L ∧ h = h0
set_option maxRecDepth 65536 in
set_option maxHeartbeats 40000000 in
theorem rm4 (l : Launch) (Z : State) (a0 : Array Value) (hw : ∀ d ∈ tables_1, d.before a0 Z = true) (ws : List Jvm.Cond) (el : Addr) (h0 : Heap) (n0 : Nat) (Z0 : n0 ≤ h0.size) (P_Old : Old Z n0 h0) (P_ZS_java_util_ImmutableCollections_EMPTY_LIST : Sta Z Z.heap "java/util/ImmutableCollections" "EMPTY_LIST" "Ljava/util/ImmutableCollections$ListN;" (.ref el)) :
    MetFree l (⟨"java/util/List", "of", "()Ljava/util/List;"⟩ : MethodName) (head1 (Jvm.Cond.code (⟨"java/util/List", "of", "()Ljava/util/List;"⟩ : MethodName) jdk_40_method_36_code 0 (some (.object "java/util/List")) :: ws) ({ frames := 0, cells := 0, slots := 0, locals := 0 } : Room)) (fun a U => a = #[] ∧ Z.Warmed39 U.vm ∧ U.heap = h0) (fun _ _ _ _ _ => True) (fun _ U o U' => ∃ v L, o = .returned v ∧ (Q4 Z el h0 n0) v U'.heap L ∧ FrameEnd U o U' L ({ frames := 0, cells := 0, slots := 0, locals := 0 } : Room).cells ({ frames := 0, cells := 0, slots := 0, locals := 0 } : Room).slots) := by
  refine MetFree.of_bodySF (plainFor_of_name pn_3) hisR ?_
  intro p e s m args below meth c s₁ Bd hml0 hP hK
  obtain ⟨rfl, hZ, hh⟩ := hP
  have hx := Bd.exec
  have hby := Bd.bytes
  have hml : c.maxLocals = 0 := hml0
  have hown : s.vm.findClass "java/util/List" = some m.cls := findClass_of_methodNamed Bd.named
  have hnm := (name_of_methodNamed Bd.named Bd.method).1
  have hlk : meth.locks = false := BodyLoose.notSynchronized Bd
  have X0 : Stand p l e ({ frames := 0, cells := 0, slots := 0, locals := 0 } : Room) s m #[] below meth c s₁ [] 0 0 := Stand.of_body Bd
  have e0 : s₁.heap = h0 := by rw [← hh, Bd.state]; rfl
  have N0 := Fr.nil n0
  show own_G p.tables e below (s₁.setTop (entryFrame m #[] 0)) s ({ frames := 0, cells := 0, slots := 0, locals := 0 } : Room).cells ({ frames := 0, cells := 0, slots := 0, locals := 0 } : Room).slots (Q4 Z el h0 n0)
  refine own_go (fun _ k => castTop (ef_4 m ) k) ?_
  show own_G _ _ _ (s₁.setTop (mkF m 0 #[] [])) _ _ _ _
  obtain ⟨T1, X1, e1, st1⟩ := getS2 X0 hx hZ hown (host := "") (Or.inl (hw _ (List.mem_of_getElem? (i := 25) rfl))) Via.refl e0 (P_ZS_java_util_ImmutableCollections_EMPTY_LIST.ext P_Old.2) (g := (mkF m 0 #[] [])) rfl (hb hby d4_0)
  refine own_go (fun _ k => st1 _ k) ?_
  show own_G _ _ _ (T1.setTop (mkF m 3 #[] [(.ref el)])) _ _ _ _
  exact own_endR X1 hx hlk Bd.returns rfl rfl rfl (hb hby d4_3) (by decide) (by decide) (Q := (Q4 Z el h0 n0)) (by rw [e1]; exact ⟨rfl, N0, rfl⟩)
theorem d2_0 : decode prog_56_method_1_code 0 = .ok (.aload_n 0, 1) := by decide +kernel
theorem d2_1 : decode prog_56_method_1_code 1 = .ok (.invokespecial 1, 3) := by decide +kernel
theorem d2_4 : decode prog_56_method_1_code 4 = .ok (.aload_n 0, 1) := by decide +kernel
theorem d2_5 : decode prog_56_method_1_code 5 = .ok (.invokestatic 7, 3) := by decide +kernel
theorem d2_8 : decode prog_56_method_1_code 8 = .ok (.putfield 13, 3) := by decide +kernel
theorem d2_11 : decode prog_56_method_1_code 11 = .ok (.aload_n 0, 1) := by decide +kernel
theorem d2_12 : decode prog_56_method_1_code 12 = .ok (.ldc 19, 2) := by decide +kernel
theorem d2_14 : decode prog_56_method_1_code 14 = .ok (.putfield 21, 3) := by decide +kernel
theorem d2_17 : decode prog_56_method_1_code 17 = .ok (.aload_n 0, 1) := by decide +kernel
theorem d2_18 : decode prog_56_method_1_code 18 = .ok (.aload_n 1, 1) := by decide +kernel
theorem d2_19 : decode prog_56_method_1_code 19 = .ok (.putfield 25, 3) := by decide +kernel
theorem d2_22 : decode prog_56_method_1_code 22 = .ok (.aload_n 0, 1) := by decide +kernel
theorem d2_23 : decode prog_56_method_1_code 23 = .ok (.aload_n 2, 1) := by decide +kernel
theorem d2_24 : decode prog_56_method_1_code 24 = .ok (.putfield 28, 3) := by decide +kernel
theorem d2_27 : decode prog_56_method_1_code 27 = .ok (.aload_n 0, 1) := by decide +kernel
theorem d2_28 : decode prog_56_method_1_code 28 = .ok (.aload_n 3, 1) := by decide +kernel
theorem d2_29 : decode prog_56_method_1_code 29 = .ok (.putfield 31, 3) := by decide +kernel
theorem d2_32 : decode prog_56_method_1_code 32 = .ok (.aload_n 0, 1) := by decide +kernel
theorem d2_33 : decode prog_56_method_1_code 33 = .ok (.aload 4, 2) := by decide +kernel
theorem d2_35 : decode prog_56_method_1_code 35 = .ok (.putfield 35, 3) := by decide +kernel
theorem d2_38 : decode prog_56_method_1_code 38 = .ok (.return_, 1) := by decide +kernel
theorem pd_5 : parseMethodDescriptor "()Ljava/util/List;" = some ⟨[], some (.object "java/util/List")⟩ := by decide +kernel
theorem pn_4 : plainName "com/example/pacelint/pacelint/io/XmlElement" = true := by first | (simp [plainName, overriddenIn]; done) | decide +kernel
theorem ef_2a (m : MethodId) (p0 : Addr) (p2 : Addr) : entryFrame m #[(.ref p0), .null, (.ref p2), .null, .null] 5 = mkF m 0 #[.val (.ref p0), .val .null, .val (.ref p2), .val .null, .val .null] [] := by first | (simp [entryFrame, mkF, argsToLocals, Value.category]; done) | rfl
def Q2a (Z : State) (p0 : Addr) (p2 : Addr) (el : Addr) (h0 : Heap) (n0 : Nat) (v : Option Value) (h : Heap) (L : List Loc) : Prop := v = none ∧ Fr n0 L ∧ Keep h0 h [p0] ∧ Exa Z h p0 "com/example/pacelint/pacelint/io/XmlElement" ∧ Fld Z h p0 "com/example/pacelint/pacelint/io/XmlElement" "namespace" "Ljava/lang/String;" .null ∧ Fld Z h p0 "com/example/pacelint/pacelint/io/XmlElement" "localName" "Ljava/lang/String;" (.ref p2)
set_option maxRecDepth 65536 in
set_option maxHeartbeats 40000000 in
theorem rm2a (l : Launch) (Z : State) (a0 : Array Value) (hw : ∀ d ∈ tables_1, d.before a0 Z = true) (ws : List Jvm.Cond) (p0 : Addr) (p2 : Addr) (el : Addr) (h0 : Heap) (n0 : Nat) (Z0 : n0 ≤ h0.size) (P_Old : Old Z n0 h0) (P_ZS_java_util_ImmutableCollections_EMPTY_LIST : Sta Z Z.heap "java/util/ImmutableCollections" "EMPTY_LIST" "Ljava/util/ImmutableCollections$ListN;" (.ref el)) (P_E_p0 : Exa Z h0 p0 "com/example/pacelint/pacelint/io/XmlElement") (P_F_p0_children : Fld Z h0 p0 "com/example/pacelint/pacelint/io/XmlElement" "children" "Ljava/util/List;" .null) (P_F_p0_text : Fld Z h0 p0 "com/example/pacelint/pacelint/io/XmlElement" "text" "Ljava/lang/String;" .null) (P_F_p0_namespace : Fld Z h0 p0 "com/example/pacelint/pacelint/io/XmlElement" "namespace" "Ljava/lang/String;" .null) (P_F_p0_localName : Fld Z h0 p0 "com/example/pacelint/pacelint/io/XmlElement" "localName" "Ljava/lang/String;" .null) (P_F_p0_location : Fld Z h0 p0 "com/example/pacelint/pacelint/io/XmlElement" "location" "Lcom/example/pacelint/pacelint/model/Location;" .null) (P_F_p0_attributes : Fld Z h0 p0 "com/example/pacelint/pacelint/io/XmlElement" "attributes" "Ljava/util/Map;" .null) (g_p0 : n0 ≤ p0) :
    MetFree l (⟨"com/example/pacelint/pacelint/io/XmlElement", "<init>", "(Ljava/lang/String;Ljava/lang/String;Lcom/example/pacelint/pacelint/model/Location;Ljava/util/Map;)V"⟩ : MethodName) (head1 (Jvm.Cond.code (⟨"com/example/pacelint/pacelint/io/XmlElement", "<init>", "(Ljava/lang/String;Ljava/lang/String;Lcom/example/pacelint/pacelint/model/Location;Ljava/util/Map;)V"⟩ : MethodName) prog_56_method_1_code 5 none :: ws) ({ frames := 1, cells := 2, slots := 4, locals := 12 } : Room)) (fun a U => a = #[(.ref p0), .null, (.ref p2), .null, .null] ∧ Z.Warmed39 U.vm ∧ U.heap = h0 ∧ CHv Z own_EL U.vm h0) (fun _ _ _ _ _ => True) (fun _ U o U' => ∃ v L, o = .returned v ∧ (Q2a Z p0 p2 el h0 n0) v U'.heap L ∧ CHr Z own_EL U.vm U.heap U'.vm U'.heap ∧ ReturnedEndW U o U' L ({ frames := 1, cells := 2, slots := 4, locals := 12 } : Room).cells ({ frames := 1, cells := 2, slots := 4, locals := 12 } : Room).slots) := by
  refine MetFree.of_bodySF (plainFor_of_name pn_4) hisR ?_
  intro p e s m args below meth c s₁ Bd hml0 hP hK
  obtain ⟨rfl, hZ, hh, H0⟩ := hP
  have hx := Bd.exec
  have hby := Bd.bytes
  have hml : c.maxLocals = 5 := hml0
  have hown : s.vm.findClass "com/example/pacelint/pacelint/io/XmlElement" = some m.cls := findClass_of_methodNamed Bd.named
  have hnm := (name_of_methodNamed Bd.named Bd.method).1
  have hlk : meth.locks = false := BodyLoose.notSynchronized Bd
  have X0 : Stand p l e ({ frames := 1, cells := 2, slots := 4, locals := 12 } : Room) (s.setVm s.vm) m #[(.ref p0), .null, (.ref p2), .null, .null] below meth c s₁ [] 0 0 := Stand.of_body Bd
  have e0 : s₁.heap = h0 := by rw [← hh, Bd.state]; rfl
  have N0 := Fr.nil n0
  have hS0 := (State.WarmedH.refl s).since s.heap.size
  have hk0 : s.heap.size ≤ h0.size := by rw [hh]; exact Nat.le_refl _
  have CR0 : CHr Z own_EL s.vm h0 s.vm h0 := CHr.refl H0
  have KS0 : Keep h0 h0 [p0] := Keep.refl _ _
  have sf0_p0 : Safe Z own_EL s.vm h0 p0 := (Safe.exa hZ.alike P_E_p0 (by decide) (by decide))
  have K0 : Keep h0 h0 [p0] := Keep.refl h0 [p0]
  show own_GW p.tables e below (s₁.setTop (entryFrame m #[(.ref p0), .null, (.ref p2), .null, .null] 5)) s ({ frames := 1, cells := 2, slots := 4, locals := 12 } : Room).cells ({ frames := 1, cells := 2, slots := 4, locals := 12 } : Room).slots Z own_EL (Q2a Z p0 p2 el h0 n0)
  refine own_goW (fun _ k => castTop (ef_2a m p0 p2) k) ?_
  show own_GW _ _ _ (s₁.setTop (mkF m 0 #[.val (.ref p0), .val .null, .val (.ref p2), .val .null, .val .null] [])) _ _ _ _ _ _
  refine own_goW (fun _ k => XS.aloadN X0.here hx rfl (hb hby d2_0) rfl rfl k) ?_
  show own_GW _ _ _ (s₁.setTop (mkF m 1 #[.val (.ref p0), .val .null, .val (.ref p2), .val .null, .val .null] [(.ref p0)])) _ _ _ _ _ _
  obtain ⟨T1, X1, e1, st1⟩ := initO X0 hx hZ hown (hw _ (List.mem_of_getElem? (i := 18) rfl)) (hw _ (List.mem_of_getElem? (i := 19) rfl)) (hw _ (List.mem_of_getElem? (i := 20) rfl)) e0 (g := (mkF m 1 #[.val (.ref p0), .val .null, .val (.ref p2), .val .null, .val .null] [(.ref p0)])) rfl (by rw [hml]; rfl) rfl (hb hby d2_1) (by decide) (W := 0) (by show 2 * 0 + _ ≤ _; exact Nat.le_of_eq rfl) (by decide)
  refine own_goW (fun _ k => st1 _ k) ?_
  show own_GW _ _ _ (T1.setTop (mkF m 4 #[.val (.ref p0), .val .null, .val (.ref p2), .val .null, .val .null] [])) _ _ _ _ _ _
  refine own_goW (fun _ k => XS.aloadN X1.here hx rfl (hb hby d2_4) rfl rfl k) ?_
  show own_GW _ _ _ (T1.setTop (mkF m 5 #[.val (.ref p0), .val .null, .val (.ref p2), .val .null, .val .null] [(.ref p0)])) _ _ _ _ _ _
  obtain ⟨_, _, ⟨T2, L2, k2, n2⟩, -, X2, ⟨Lc2, hQ2, l2, y2, z2⟩, st2⟩ := Jvm.LawKit.callS X1 hx (y := (⟨"java/util/List", "of", "()Ljava/util/List;"⟩ : MethodName)) hown (mvT hZ (hw _ (List.mem_of_getElem? (i := 21) rfl))) (mvT hZ (hw _ (List.mem_of_getElem? (i := 22) rfl))) (mvT hZ (hw _ (List.mem_of_getElem? (i := 23) rfl))) (mvT hZ (hw _ (List.mem_of_getElem? (i := 24) rfl))) (by decide) (backOf (W := 1) (rm4 l Z a0 hw []  el h0 n0 Z0 P_Old P_ZS_java_util_ImmutableCollections_EMPTY_LIST) hZ (hw _ (List.mem_of_getElem? (i := 24) rfl)) (hw _ (List.mem_of_getElem? (i := 23) rfl)) (by decide) (by decide)) (g := (mkF m 5 #[.val (.ref p0), .val .null, .val (.ref p2), .val .null, .val .null] [(.ref p0)])) rfl (by rw [hml]; rfl) (argsL := []) (rest := [(.ref p0)]) (lenOf pd_5 rfl) rfl (by show 2 * 0 + _ ≤ _; exact Nat.le_of_eq rfl) (hb hby d2_5) (fun _ _ => ⟨rfl, e1, (by decide : 0 + 0 ≤ _), (by decide : 0 + 0 ≤ _)⟩)
  dsimp only [Pt.U, Pt.locs, Pt.cells, Pt.slots] at X2 l2 y2 z2 st2 hQ2
  subst l2 y2 z2
  obtain ⟨rfl, Nq2, eh2⟩ := hQ2
  have N2 := Fr.app N0 Nq2
  refine own_goW (fun _ k => st2 _ k) ?_
  show own_GW _ _ _ (T2.setTop (mkF m 8 #[.val (.ref p0), .val .null, .val (.ref p2), .val .null, .val .null] [(.ref el), (.ref p0)])) _ _ _ _ _ _
  obtain ⟨T3, h3, X3, e3, W3, st3⟩ := putF X2 hx hZ hown (host := "") (Or.inl (hw _ (List.mem_of_getElem? (i := 27) rfl))) Via.refl eh2 P_F_p0_children P_E_p0 (Or.inl (hw _ (List.mem_of_getElem? (i := 28) rfl))) (hw _ (List.mem_of_getElem? (i := 13) rfl)) (ty := (.object "java/util/List")) (by decide) rfl rfl (g := (mkF m 8 #[.val (.ref p0), .val .null, .val (.ref p2), .val .null, .val .null] [(.ref el), (.ref p0)])) rfl rfl (hb hby d2_8)
  have N3 := Fr.snoc X3 N2 g_p0
  have Zs3 : n0 ≤ h3.size := Nat.le_trans Z0 (Keep.of_wr W3).1
  have K3_0 : Keep h0 h3 [p0] := K0.wr W3 (Or.inl (List.mem_of_getElem? (i := 0) rfl))
  have K3_1 : Keep h0 h3 [p0] := KS0.wr W3 (Or.inl (List.mem_of_getElem? (i := 0) rfl))
  have f4 : Old Z n0 h3 := P_Old.wr W3 g_p0
  have f5 : Exa Z h3 p0 "com/example/pacelint/pacelint/io/XmlElement" := P_E_p0.wr W3
  have f6 : Fld Z h3 p0 "com/example/pacelint/pacelint/io/XmlElement" "children" "Ljava/util/List;" (.ref el) := P_F_p0_children.same W3
  have f7 : Fld Z h3 p0 "com/example/pacelint/pacelint/io/XmlElement" "text" "Ljava/lang/String;" .null := P_F_p0_text.other W3 (Or.inr (slot_ne (Or.inl (hw _ (List.mem_of_getElem? (i := 31) rfl))) (Or.inl (hw _ (List.mem_of_getElem? (i := 28) rfl))) (by decide) (t := (.object "java/lang/String")) (t' := (.object "java/util/List")) (by decide) (by decide)))
  have f8 : Fld Z h3 p0 "com/example/pacelint/pacelint/io/XmlElement" "namespace" "Ljava/lang/String;" .null := P_F_p0_namespace.other W3 (Or.inr (slot_ne (Or.inr (hw _ (List.mem_of_getElem? (i := 33) rfl))) (Or.inl (hw _ (List.mem_of_getElem? (i := 28) rfl))) (by decide) (t := (.object "java/lang/String")) (t' := (.object "java/util/List")) (by decide) (by decide)))
  have f9 : Fld Z h3 p0 "com/example/pacelint/pacelint/io/XmlElement" "localName" "Ljava/lang/String;" .null := P_F_p0_localName.other W3 (Or.inr (slot_ne (Or.inr (hw _ (List.mem_of_getElem? (i := 35) rfl))) (Or.inl (hw _ (List.mem_of_getElem? (i := 28) rfl))) (by decide) (t := (.object "java/lang/String")) (t' := (.object "java/util/List")) (by decide) (by decide)))
  have f10 : Fld Z h3 p0 "com/example/pacelint/pacelint/io/XmlElement" "location" "Lcom/example/pacelint/pacelint/model/Location;" .null := P_F_p0_location.other W3 (Or.inr (slot_ne (Or.inr (hw _ (List.mem_of_getElem? (i := 37) rfl))) (Or.inl (hw _ (List.mem_of_getElem? (i := 28) rfl))) (by decide) (t := (.object "com/example/pacelint/pacelint/model/Location")) (t' := (.object "java/util/List")) (by decide) (by decide)))
  have f11 : Fld Z h3 p0 "com/example/pacelint/pacelint/io/XmlElement" "attributes" "Ljava/util/Map;" .null := P_F_p0_attributes.other W3 (Or.inr (slot_ne (Or.inr (hw _ (List.mem_of_getElem? (i := 39) rfl))) (Or.inl (hw _ (List.mem_of_getElem? (i := 28) rfl))) (by decide) (t := (.object "java/util/Map")) (t' := (.object "java/util/List")) (by decide) (by decide)))
  refine own_goW (fun _ k => st3 _ k) ?_
  show own_GW _ _ _ (T3.setTop (mkF m 11 #[.val (.ref p0), .val .null, .val (.ref p2), .val .null, .val .null] [])) _ _ _ _ _ _
  refine own_goW (fun _ k => XS.aloadN X3.here hx rfl (hb hby d2_11) rfl rfl k) ?_
  show own_GW _ _ _ (T3.setTop (mkF m 12 #[.val (.ref p0), .val .null, .val (.ref p2), .val .null, .val .null] [(.ref p0)])) _ _ _ _ _ _
  have CQ12 := CR0.trans (CHr.keep K3_1 (allS (sf0_p0) all0) CR0.1)
  obtain ⟨a12, T12, h12, k112, b12, kb12, X12, e12, E12, hS12, hk12, hZ, hown, xa12, cd12, vl12, vb12, la12, lb12, CC12, Lt12, nea12, st12⟩ := ldcCH X3 hx hZ hown (hw _ (List.mem_of_getElem? (i := 29) rfl)) (own_wS hw) e3 hS0 (Nat.le_trans hk0 K3_1.1) (own_EW hw) (by simp [own_EL]) CQ12.1 (vs := []) (z := (0 : Int32)) ⟨by decide, rfl⟩ (by decide) rfl (g := (mkF m 12 #[.val (.ref p0), .val .null, .val (.ref p2), .val .null, .val .null] [(.ref p0)])) rfl (hb hby d2_12) (n := 0) (by decide) (by decide) (by decide) (by decide)
  have CR12 := CQ12.trans CC12
  have Zs12 : n0 ≤ h12.size := Nat.le_trans Zs3 E12.1
  have K12_0 : Keep h0 h12 [p0] := K3_0.ext E12
  have f13 : Old Z n0 h12 := f4.ext E12
  have f14 : Exa Z h12 p0 "com/example/pacelint/pacelint/io/XmlElement" := f5.ext E12
  have f15 : Fld Z h12 p0 "com/example/pacelint/pacelint/io/XmlElement" "children" "Ljava/util/List;" (.ref el) := f6.ext E12
  have f16 : Fld Z h12 p0 "com/example/pacelint/pacelint/io/XmlElement" "text" "Ljava/lang/String;" .null := f7.ext E12
  have f17 : Fld Z h12 p0 "com/example/pacelint/pacelint/io/XmlElement" "namespace" "Ljava/lang/String;" .null := f8.ext E12
  have f18 : Fld Z h12 p0 "com/example/pacelint/pacelint/io/XmlElement" "localName" "Ljava/lang/String;" .null := f9.ext E12
  have f19 : Fld Z h12 p0 "com/example/pacelint/pacelint/io/XmlElement" "location" "Lcom/example/pacelint/pacelint/model/Location;" .null := f10.ext E12
  have f20 : Fld Z h12 p0 "com/example/pacelint/pacelint/io/XmlElement" "attributes" "Ljava/util/Map;" .null := f11.ext E12
  have sf21 : Safe Z own_EL T12.vm h12 p0 := (Safe.exa hZ.alike f14 (by decide) (by decide))
  have KS12 : Keep h12 h12 [p0] := Keep.refl _ _
  refine own_goW (fun _ k => st12 _ k) ?_
  show own_GW _ _ _ (T12.setTop (mkF m 14 #[.val (.ref p0), .val .null, .val (.ref p2), .val .null, .val .null] [(.ref a12), (.ref p0)])) _ _ _ _ _ _
  obtain ⟨T22, h22, X22, e22, W22, st22⟩ := putF X12 hx hZ hown (host := "") (Or.inl (hw _ (List.mem_of_getElem? (i := 30) rfl))) Via.refl e12 f16 f14 (Or.inl (hw _ (List.mem_of_getElem? (i := 31) rfl))) (hw _ (List.mem_of_getElem? (i := 13) rfl)) (ty := (.object "java/lang/String")) (by decide) rfl rfl (g := (mkF m 14 #[.val (.ref p0), .val .null, .val (.ref p2), .val .null, .val .null] [(.ref a12), (.ref p0)])) rfl rfl (hb hby d2_14)
  have N22 := Fr.snoc X22 N3 g_p0
  have Zs22 : n0 ≤ h22.size := Nat.le_trans Zs12 (Keep.of_wr W22).1
  have K22_0 : Keep h0 h22 [p0] := K12_0.wr W22 (Or.inl (List.mem_of_getElem? (i := 0) rfl))
  have K22_1 : Keep h12 h22 [p0] := KS12.wr W22 (Or.inl (List.mem_of_getElem? (i := 0) rfl))
  have f23 : Old Z n0 h22 := f13.wr W22 g_p0
  have f24 : Exa Z h22 p0 "com/example/pacelint/pacelint/io/XmlElement" := f14.wr W22
  have f25 : Fld Z h22 p0 "com/example/pacelint/pacelint/io/XmlElement" "children" "Ljava/util/List;" (.ref el) := f15.other W22 (Or.inr (slot_ne (Or.inl (hw _ (List.mem_of_getElem? (i := 28) rfl))) (Or.inl (hw _ (List.mem_of_getElem? (i := 31) rfl))) (by decide) (t := (.object "java/util/List")) (t' := (.object "java/lang/String")) (by decide) (by decide)))
  have f26 : Fld Z h22 p0 "com/example/pacelint/pacelint/io/XmlElement" "text" "Ljava/lang/String;" (.ref a12) := f16.same W22
  have f27 : Fld Z h22 p0 "com/example/pacelint/pacelint/io/XmlElement" "namespace" "Ljava/lang/String;" .null := f17.other W22 (Or.inr (slot_ne (Or.inr (hw _ (List.mem_of_getElem? (i := 33) rfl))) (Or.inl (hw _ (List.mem_of_getElem? (i := 31) rfl))) (by decide) (t := (.object "java/lang/String")) (t' := (.object "java/lang/String")) (by decide) (by decide)))
  have f28 : Fld Z h22 p0 "com/example/pacelint/pacelint/io/XmlElement" "localName" "Ljava/lang/String;" .null := f18.other W22 (Or.inr (slot_ne (Or.inr (hw _ (List.mem_of_getElem? (i := 35) rfl))) (Or.inl (hw _ (List.mem_of_getElem? (i := 31) rfl))) (by decide) (t := (.object "java/lang/String")) (t' := (.object "java/lang/String")) (by decide) (by decide)))
  have f29 : Fld Z h22 p0 "com/example/pacelint/pacelint/io/XmlElement" "location" "Lcom/example/pacelint/pacelint/model/Location;" .null := f19.other W22 (Or.inr (slot_ne (Or.inr (hw _ (List.mem_of_getElem? (i := 37) rfl))) (Or.inl (hw _ (List.mem_of_getElem? (i := 31) rfl))) (by decide) (t := (.object "com/example/pacelint/pacelint/model/Location")) (t' := (.object "java/lang/String")) (by decide) (by decide)))
  have f30 : Fld Z h22 p0 "com/example/pacelint/pacelint/io/XmlElement" "attributes" "Ljava/util/Map;" .null := f20.other W22 (Or.inr (slot_ne (Or.inr (hw _ (List.mem_of_getElem? (i := 39) rfl))) (Or.inl (hw _ (List.mem_of_getElem? (i := 31) rfl))) (by decide) (t := (.object "java/util/Map")) (t' := (.object "java/lang/String")) (by decide) (by decide)))
  have f31 : Exa Z h22 a12 "java/lang/String" := xa12.wr W22
  have f32 : Fld Z h22 a12 "java/lang/String" "coder" "B" (.int 0) := cd12.other W22 (Or.inl (ne_exa xa12 f14 (by decide)))
  have f33 : Fld Z h22 a12 "java/lang/String" "value" "[B" (.ref b12) := vl12.other W22 (Or.inl (ne_exa xa12 f14 (by decide)))
  have f34 : Arv Z h22 b12 kb12 .byte (0 : Int32) [] (.int (0 : Int32)) := vb12.other W22 (Ne.symm (by obtain ⟨c_, A_, -⟩ := vb12; exact ne_arr f14 (hw _ (List.mem_of_getElem? (i := 13) rfl)) A_))
  refine own_goW (fun _ k => st22 _ k) ?_
  show own_GW _ _ _ (T22.setTop (mkF m 17 #[.val (.ref p0), .val .null, .val (.ref p2), .val .null, .val .null] [])) _ _ _ _ _ _
  refine own_goW (fun _ k => XS.aloadN X22.here hx rfl (hb hby d2_17) rfl rfl k) ?_
  show own_GW _ _ _ (T22.setTop (mkF m 18 #[.val (.ref p0), .val .null, .val (.ref p2), .val .null, .val .null] [(.ref p0)])) _ _ _ _ _ _
  refine own_goW (fun _ k => XS.aloadN X22.here hx rfl (hb hby d2_18) rfl rfl k) ?_
  show own_GW _ _ _ (T22.setTop (mkF m 19 #[.val (.ref p0), .val .null, .val (.ref p2), .val .null, .val .null] [.null, (.ref p0)])) _ _ _ _ _ _
  obtain ⟨T35, h35, X35, e35, W35, st35⟩ := putF X22 hx hZ hown (host := "") (Or.inl (hw _ (List.mem_of_getElem? (i := 32) rfl))) Via.refl e22 f27 f24 (Or.inr ⟨(hw _ (List.mem_of_getElem? (i := 33) rfl)), rfl, hnm⟩) (hw _ (List.mem_of_getElem? (i := 13) rfl)) (ty := (.object "java/lang/String")) (by decide) rfl rfl (g := (mkF m 19 #[.val (.ref p0), .val .null, .val (.ref p2), .val .null, .val .null] [.null, (.ref p0)])) rfl rfl (hb hby d2_19)
  have N35 := Fr.snoc X35 N22 g_p0
  have Zs35 : n0 ≤ h35.size := Nat.le_trans Zs22 (Keep.of_wr W35).1
  have K35_0 : Keep h0 h35 [p0] := K22_0.wr W35 (Or.inl (List.mem_of_getElem? (i := 0) rfl))
  have K35_1 : Keep h12 h35 [p0] := K22_1.wr W35 (Or.inl (List.mem_of_getElem? (i := 0) rfl))
  have f36 : Old Z n0 h35 := f23.wr W35 g_p0
  have f37 : Exa Z h35 p0 "com/example/pacelint/pacelint/io/XmlElement" := f24.wr W35
  have f38 : Fld Z h35 p0 "com/example/pacelint/pacelint/io/XmlElement" "children" "Ljava/util/List;" (.ref el) := f25.other W35 (Or.inr (slot_ne (Or.inl (hw _ (List.mem_of_getElem? (i := 28) rfl))) (Or.inr (hw _ (List.mem_of_getElem? (i := 33) rfl))) (by decide) (t := (.object "java/util/List")) (t' := (.object "java/lang/String")) (by decide) (by decide)))
  have f39 : Fld Z h35 p0 "com/example/pacelint/pacelint/io/XmlElement" "text" "Ljava/lang/String;" (.ref a12) := f26.other W35 (Or.inr (slot_ne (Or.inl (hw _ (List.mem_of_getElem? (i := 31) rfl))) (Or.inr (hw _ (List.mem_of_getElem? (i := 33) rfl))) (by decide) (t := (.object "java/lang/String")) (t' := (.object "java/lang/String")) (by decide) (by decide)))
  have f40 : Fld Z h35 p0 "com/example/pacelint/pacelint/io/XmlElement" "namespace" "Ljava/lang/String;" .null := f27.same W35
  have f41 : Fld Z h35 p0 "com/example/pacelint/pacelint/io/XmlElement" "localName" "Ljava/lang/String;" .null := f28.other W35 (Or.inr (slot_ne (Or.inr (hw _ (List.mem_of_getElem? (i := 35) rfl))) (Or.inr (hw _ (List.mem_of_getElem? (i := 33) rfl))) (by decide) (t := (.object "java/lang/String")) (t' := (.object "java/lang/String")) (by decide) (by decide)))
  have f42 : Fld Z h35 p0 "com/example/pacelint/pacelint/io/XmlElement" "location" "Lcom/example/pacelint/pacelint/model/Location;" .null := f29.other W35 (Or.inr (slot_ne (Or.inr (hw _ (List.mem_of_getElem? (i := 37) rfl))) (Or.inr (hw _ (List.mem_of_getElem? (i := 33) rfl))) (by decide) (t := (.object "com/example/pacelint/pacelint/model/Location")) (t' := (.object "java/lang/String")) (by decide) (by decide)))
  have f43 : Fld Z h35 p0 "com/example/pacelint/pacelint/io/XmlElement" "attributes" "Ljava/util/Map;" .null := f30.other W35 (Or.inr (slot_ne (Or.inr (hw _ (List.mem_of_getElem? (i := 39) rfl))) (Or.inr (hw _ (List.mem_of_getElem? (i := 33) rfl))) (by decide) (t := (.object "java/util/Map")) (t' := (.object "java/lang/String")) (by decide) (by decide)))
  have f44 : Exa Z h35 a12 "java/lang/String" := f31.wr W35
  have f45 : Fld Z h35 a12 "java/lang/String" "coder" "B" (.int 0) := f32.other W35 (Or.inl (ne_exa f31 f24 (by decide)))
  have f46 : Fld Z h35 a12 "java/lang/String" "value" "[B" (.ref b12) := f33.other W35 (Or.inl (ne_exa f31 f24 (by decide)))
  have f47 : Arv Z h35 b12 kb12 .byte (0 : Int32) [] (.int (0 : Int32)) := f34.other W35 (Ne.symm (by obtain ⟨c_, A_, -⟩ := f34; exact ne_arr f24 (hw _ (List.mem_of_getElem? (i := 13) rfl)) A_))
  refine own_goW (fun _ k => st35 _ k) ?_
  show own_GW _ _ _ (T35.setTop (mkF m 22 #[.val (.ref p0), .val .null, .val (.ref p2), .val .null, .val .null] [])) _ _ _ _ _ _
  refine own_goW (fun _ k => XS.aloadN X35.here hx rfl (hb hby d2_22) rfl rfl k) ?_
  show own_GW _ _ _ (T35.setTop (mkF m 23 #[.val (.ref p0), .val .null, .val (.ref p2), .val .null, .val .null] [(.ref p0)])) _ _ _ _ _ _
  refine own_goW (fun _ k => XS.aloadN X35.here hx rfl (hb hby d2_23) rfl rfl k) ?_
  show own_GW _ _ _ (T35.setTop (mkF m 24 #[.val (.ref p0), .val .null, .val (.ref p2), .val .null, .val .null] [(.ref p2), (.ref p0)])) _ _ _ _ _ _
  obtain ⟨T48, h48, X48, e48, W48, st48⟩ := putF X35 hx hZ hown (host := "") (Or.inl (hw _ (List.mem_of_getElem? (i := 34) rfl))) Via.refl e35 f41 f37 (Or.inr ⟨(hw _ (List.mem_of_getElem? (i := 35) rfl)), rfl, hnm⟩) (hw _ (List.mem_of_getElem? (i := 13) rfl)) (ty := (.object "java/lang/String")) (by decide) rfl rfl (g := (mkF m 24 #[.val (.ref p0), .val .null, .val (.ref p2), .val .null, .val .null] [(.ref p2), (.ref p0)])) rfl rfl (hb hby d2_24)
  have N48 := Fr.snoc X48 N35 g_p0
  have Zs48 : n0 ≤ h48.size := Nat.le_trans Zs35 (Keep.of_wr W48).1
  have K48_0 : Keep h0 h48 [p0] := K35_0.wr W48 (Or.inl (List.mem_of_getElem? (i := 0) rfl))
  have K48_1 : Keep h12 h48 [p0] := K35_1.wr W48 (Or.inl (List.mem_of_getElem? (i := 0) rfl))
  have f49 : Old Z n0 h48 := f36.wr W48 g_p0
  have f50 : Exa Z h48 p0 "com/example/pacelint/pacelint/io/XmlElement" := f37.wr W48
  have f51 : Fld Z h48 p0 "com/example/pacelint/pacelint/io/XmlElement" "children" "Ljava/util/List;" (.ref el) := f38.other W48 (Or.inr (slot_ne (Or.inl (hw _ (List.mem_of_getElem? (i := 28) rfl))) (Or.inr (hw _ (List.mem_of_getElem? (i := 35) rfl))) (by decide) (t := (.object "java/util/List")) (t' := (.object "java/lang/String")) (by decide) (by decide)))
  have f52 : Fld Z h48 p0 "com/example/pacelint/pacelint/io/XmlElement" "text" "Ljava/lang/String;" (.ref a12) := f39.other W48 (Or.inr (slot_ne (Or.inl (hw _ (List.mem_of_getElem? (i := 31) rfl))) (Or.inr (hw _ (List.mem_of_getElem? (i := 35) rfl))) (by decide) (t := (.object "java/lang/String")) (t' := (.object "java/lang/String")) (by decide) (by decide)))
  have f53 : Fld Z h48 p0 "com/example/pacelint/pacelint/io/XmlElement" "namespace" "Ljava/lang/String;" .null := f40.other W48 (Or.inr (slot_ne (Or.inr (hw _ (List.mem_of_getElem? (i := 33) rfl))) (Or.inr (hw _ (List.mem_of_getElem? (i := 35) rfl))) (by decide) (t := (.object "java/lang/String")) (t' := (.object "java/lang/String")) (by decide) (by decide)))
  have f54 : Fld Z h48 p0 "com/example/pacelint/pacelint/io/XmlElement" "localName" "Ljava/lang/String;" (.ref p2) := f41.same W48
  have f55 : Fld Z h48 p0 "com/example/pacelint/pacelint/io/XmlElement" "location" "Lcom/example/pacelint/pacelint/model/Location;" .null := f42.other W48 (Or.inr (slot_ne (Or.inr (hw _ (List.mem_of_getElem? (i := 37) rfl))) (Or.inr (hw _ (List.mem_of_getElem? (i := 35) rfl))) (by decide) (t := (.object "com/example/pacelint/pacelint/model/Location")) (t' := (.object "java/lang/String")) (by decide) (by decide)))
  have f56 : Fld Z h48 p0 "com/example/pacelint/pacelint/io/XmlElement" "attributes" "Ljava/util/Map;" .null := f43.other W48 (Or.inr (slot_ne (Or.inr (hw _ (List.mem_of_getElem? (i := 39) rfl))) (Or.inr (hw _ (List.mem_of_getElem? (i := 35) rfl))) (by decide) (t := (.object "java/util/Map")) (t' := (.object "java/lang/String")) (by decide) (by decide)))
  have f57 : Exa Z h48 a12 "java/lang/String" := f44.wr W48
  have f58 : Fld Z h48 a12 "java/lang/String" "coder" "B" (.int 0) := f45.other W48 (Or.inl (ne_exa f44 f37 (by decide)))
  have f59 : Fld Z h48 a12 "java/lang/String" "value" "[B" (.ref b12) := f46.other W48 (Or.inl (ne_exa f44 f37 (by decide)))
  have f60 : Arv Z h48 b12 kb12 .byte (0 : Int32) [] (.int (0 : Int32)) := f47.other W48 (Ne.symm (by obtain ⟨c_, A_, -⟩ := f47; exact ne_arr f37 (hw _ (List.mem_of_getElem? (i := 13) rfl)) A_))
  refine own_goW (fun _ k => st48 _ k) ?_
  show own_GW _ _ _ (T48.setTop (mkF m 27 #[.val (.ref p0), .val .null, .val (.ref p2), .val .null, .val .null] [])) _ _ _ _ _ _
  refine own_goW (fun _ k => XS.aloadN X48.here hx rfl (hb hby d2_27) rfl rfl k) ?_
  show own_GW _ _ _ (T48.setTop (mkF m 28 #[.val (.ref p0), .val .null, .val (.ref p2), .val .null, .val .null] [(.ref p0)])) _ _ _ _ _ _
  refine own_goW (fun _ k => XS.aloadN X48.here hx rfl (hb hby d2_28) rfl rfl k) ?_
  show own_GW _ _ _ (T48.setTop (mkF m 29 #[.val (.ref p0), .val .null, .val (.ref p2), .val .null, .val .null] [.null, (.ref p0)])) _ _ _ _ _ _
  obtain ⟨T61, h61, X61, e61, W61, st61⟩ := putF X48 hx hZ hown (host := "") (Or.inl (hw _ (List.mem_of_getElem? (i := 36) rfl))) Via.refl e48 f55 f50 (Or.inr ⟨(hw _ (List.mem_of_getElem? (i := 37) rfl)), rfl, hnm⟩) (hw _ (List.mem_of_getElem? (i := 13) rfl)) (ty := (.object "com/example/pacelint/pacelint/model/Location")) (by decide) rfl rfl (g := (mkF m 29 #[.val (.ref p0), .val .null, .val (.ref p2), .val .null, .val .null] [.null, (.ref p0)])) rfl rfl (hb hby d2_29)
  have N61 := Fr.snoc X61 N48 g_p0
  have Zs61 : n0 ≤ h61.size := Nat.le_trans Zs48 (Keep.of_wr W61).1
  have K61_0 : Keep h0 h61 [p0] := K48_0.wr W61 (Or.inl (List.mem_of_getElem? (i := 0) rfl))
  have K61_1 : Keep h12 h61 [p0] := K48_1.wr W61 (Or.inl (List.mem_of_getElem? (i := 0) rfl))
  have f62 : Old Z n0 h61 := f49.wr W61 g_p0
  have f63 : Exa Z h61 p0 "com/example/pacelint/pacelint/io/XmlElement" := f50.wr W61
  have f64 : Fld Z h61 p0 "com/example/pacelint/pacelint/io/XmlElement" "children" "Ljava/util/List;" (.ref el) := f51.other W61 (Or.inr (slot_ne (Or.inl (hw _ (List.mem_of_getElem? (i := 28) rfl))) (Or.inr (hw _ (List.mem_of_getElem? (i := 37) rfl))) (by decide) (t := (.object "java/util/List")) (t' := (.object "com/example/pacelint/pacelint/model/Location")) (by decide) (by decide)))
  have f65 : Fld Z h61 p0 "com/example/pacelint/pacelint/io/XmlElement" "text" "Ljava/lang/String;" (.ref a12) := f52.other W61 (Or.inr (slot_ne (Or.inl (hw _ (List.mem_of_getElem? (i := 31) rfl))) (Or.inr (hw _ (List.mem_of_getElem? (i := 37) rfl))) (by decide) (t := (.object "java/lang/String")) (t' := (.object "com/example/pacelint/pacelint/model/Location")) (by decide) (by decide)))
  have f66 : Fld Z h61 p0 "com/example/pacelint/pacelint/io/XmlElement" "namespace" "Ljava/lang/String;" .null := f53.other W61 (Or.inr (slot_ne (Or.inr (hw _ (List.mem_of_getElem? (i := 33) rfl))) (Or.inr (hw _ (List.mem_of_getElem? (i := 37) rfl))) (by decide) (t := (.object "java/lang/String")) (t' := (.object "com/example/pacelint/pacelint/model/Location")) (by decide) (by decide)))
  have f67 : Fld Z h61 p0 "com/example/pacelint/pacelint/io/XmlElement" "localName" "Ljava/lang/String;" (.ref p2) := f54.other W61 (Or.inr (slot_ne (Or.inr (hw _ (List.mem_of_getElem? (i := 35) rfl))) (Or.inr (hw _ (List.mem_of_getElem? (i := 37) rfl))) (by decide) (t := (.object "java/lang/String")) (t' := (.object "com/example/pacelint/pacelint/model/Location")) (by decide) (by decide)))
  have f68 : Fld Z h61 p0 "com/example/pacelint/pacelint/io/XmlElement" "location" "Lcom/example/pacelint/pacelint/model/Location;" .null := f55.same W61
  have f69 : Fld Z h61 p0 "com/example/pacelint/pacelint/io/XmlElement" "attributes" "Ljava/util/Map;" .null := f56.other W61 (Or.inr (slot_ne (Or.inr (hw _ (List.mem_of_getElem? (i := 39) rfl))) (Or.inr (hw _ (List.mem_of_getElem? (i := 37) rfl))) (by decide) (t := (.object "java/util/Map")) (t' := (.object "com/example/pacelint/pacelint/model/Location")) (by decide) (by decide)))
  have f70 : Exa Z h61 a12 "java/lang/String" := f57.wr W61
  have f71 : Fld Z h61 a12 "java/lang/String" "coder" "B" (.int 0) := f58.other W61 (Or.inl (ne_exa f57 f50 (by decide)))
  have f72 : Fld Z h61 a12 "java/lang/String" "value" "[B" (.ref b12) := f59.other W61 (Or.inl (ne_exa f57 f50 (by decide)))
  have f73 : Arv Z h61 b12 kb12 .byte (0 : Int32) [] (.int (0 : Int32)) := f60.other W61 (Ne.symm (by obtain ⟨c_, A_, -⟩ := f60; exact ne_arr f50 (hw _ (List.mem_of_getElem? (i := 13) rfl)) A_))
  refine own_goW (fun _ k => st61 _ k) ?_
  show own_GW _ _ _ (T61.setTop (mkF m 32 #[.val (.ref p0), .val .null, .val (.ref p2), .val .null, .val .null] [])) _ _ _ _ _ _
  refine own_goW (fun _ k => XS.aloadN X61.here hx rfl (hb hby d2_32) rfl rfl k) ?_
  show own_GW _ _ _ (T61.setTop (mkF m 33 #[.val (.ref p0), .val .null, .val (.ref p2), .val .null, .val .null] [(.ref p0)])) _ _ _ _ _ _
  refine own_goW (fun _ k => XS.aload X61.here hx rfl (hb hby d2_33) rfl rfl k) ?_
  show own_GW _ _ _ (T61.setTop (mkF m 35 #[.val (.ref p0), .val .null, .val (.ref p2), .val .null, .val .null] [.null, (.ref p0)])) _ _ _ _ _ _
  obtain ⟨T74, h74, X74, e74, W74, st74⟩ := putF X61 hx hZ hown (host := "") (Or.inl (hw _ (List.mem_of_getElem? (i := 38) rfl))) Via.refl e61 f69 f63 (Or.inr ⟨(hw _ (List.mem_of_getElem? (i := 39) rfl)), rfl, hnm⟩) (hw _ (List.mem_of_getElem? (i := 13) rfl)) (ty := (.object "java/util/Map")) (by decide) rfl rfl (g := (mkF m 35 #[.val (.ref p0), .val .null, .val (.ref p2), .val .null, .val .null] [.null, (.ref p0)])) rfl rfl (hb hby d2_35)
  have N74 := Fr.snoc X74 N61 g_p0
  have Zs74 : n0 ≤ h74.size := Nat.le_trans Zs61 (Keep.of_wr W74).1
  have K74_0 : Keep h0 h74 [p0] := K61_0.wr W74 (Or.inl (List.mem_of_getElem? (i := 0) rfl))
  have K74_1 : Keep h12 h74 [p0] := K61_1.wr W74 (Or.inl (List.mem_of_getElem? (i := 0) rfl))
  have f75 : Old Z n0 h74 := f62.wr W74 g_p0
  have f76 : Exa Z h74 p0 "com/example/pacelint/pacelint/io/XmlElement" := f63.wr W74
  have f77 : Fld Z h74 p0 "com/example/pacelint/pacelint/io/XmlElement" "children" "Ljava/util/List;" (.ref el) := f64.other W74 (Or.inr (slot_ne (Or.inl (hw _ (List.mem_of_getElem? (i := 28) rfl))) (Or.inr (hw _ (List.mem_of_getElem? (i := 39) rfl))) (by decide) (t := (.object "java/util/List")) (t' := (.object "java/util/Map")) (by decide) (by decide)))
  have f78 : Fld Z h74 p0 "com/example/pacelint/pacelint/io/XmlElement" "text" "Ljava/lang/String;" (.ref a12) := f65.other W74 (Or.inr (slot_ne (Or.inl (hw _ (List.mem_of_getElem? (i := 31) rfl))) (Or.inr (hw _ (List.mem_of_getElem? (i := 39) rfl))) (by decide) (t := (.object "java/lang/String")) (t' := (.object "java/util/Map")) (by decide) (by decide)))
  have f79 : Fld Z h74 p0 "com/example/pacelint/pacelint/io/XmlElement" "namespace" "Ljava/lang/String;" .null := f66.other W74 (Or.inr (slot_ne (Or.inr (hw _ (List.mem_of_getElem? (i := 33) rfl))) (Or.inr (hw _ (List.mem_of_getElem? (i := 39) rfl))) (by decide) (t := (.object "java/lang/String")) (t' := (.object "java/util/Map")) (by decide) (by decide)))
  have f80 : Fld Z h74 p0 "com/example/pacelint/pacelint/io/XmlElement" "localName" "Ljava/lang/String;" (.ref p2) := f67.other W74 (Or.inr (slot_ne (Or.inr (hw _ (List.mem_of_getElem? (i := 35) rfl))) (Or.inr (hw _ (List.mem_of_getElem? (i := 39) rfl))) (by decide) (t := (.object "java/lang/String")) (t' := (.object "java/util/Map")) (by decide) (by decide)))
  have f81 : Fld Z h74 p0 "com/example/pacelint/pacelint/io/XmlElement" "location" "Lcom/example/pacelint/pacelint/model/Location;" .null := f68.other W74 (Or.inr (slot_ne (Or.inr (hw _ (List.mem_of_getElem? (i := 37) rfl))) (Or.inr (hw _ (List.mem_of_getElem? (i := 39) rfl))) (by decide) (t := (.object "com/example/pacelint/pacelint/model/Location")) (t' := (.object "java/util/Map")) (by decide) (by decide)))
  have f82 : Fld Z h74 p0 "com/example/pacelint/pacelint/io/XmlElement" "attributes" "Ljava/util/Map;" .null := f69.same W74
  have f83 : Exa Z h74 a12 "java/lang/String" := f70.wr W74
  have f84 : Fld Z h74 a12 "java/lang/String" "coder" "B" (.int 0) := f71.other W74 (Or.inl (ne_exa f70 f63 (by decide)))
  have f85 : Fld Z h74 a12 "java/lang/String" "value" "[B" (.ref b12) := f72.other W74 (Or.inl (ne_exa f70 f63 (by decide)))
  have f86 : Arv Z h74 b12 kb12 .byte (0 : Int32) [] (.int (0 : Int32)) := f73.other W74 (Ne.symm (by obtain ⟨c_, A_, -⟩ := f73; exact ne_arr f63 (hw _ (List.mem_of_getElem? (i := 13) rfl)) A_))
  refine own_goW (fun _ k => st74 _ k) ?_
  show own_GW _ _ _ (T74.setTop (mkF m 38 #[.val (.ref p0), .val .null, .val (.ref p2), .val .null, .val .null] [])) _ _ _ _ _ _
  have CQ87 := CR12.trans (CHr.keep K74_1 (allS sf21 all0) CR12.1)
  have CE87 : CHr Z own_EL s.vm s.heap T74.vm T74.heap := by rw [hh, show T74.heap = h74 from e74]; exact CQ87.trans (CHv.at X74 hZ (own_EW hw) CQ87.1)
  exact own_endWV X74 hx hlk Bd.returns (hb hby d2_38) hS12 (show _ ≤ T74.heap.size by rw [show T74.heap = h74 from e74]; exact (Nat.le_trans hk12 K74_1.1)) (by decide) (by decide) CE87 (Q := (Q2a Z p0 p2 el h0 n0)) (by rw [e74]; exact ⟨rfl, N74, K74_0, f76, f79, f80⟩)
theorem ef_2b (m : MethodId) (p0 : Addr) (p1 : Addr) (p2 : Addr) : entryFrame m #[(.ref p0), (.ref p1), (.ref p2), .null, .null] 5 = mkF m 0 #[.val (.ref p0), .val (.ref p1), .val (.ref p2), .val .null, .val .null] [] := by first | (simp [entryFrame, mkF, argsToLocals, Value.category]; done) | rfl
def Q2b (Z : State) (p0 : Addr) (p1 : Addr) (p2 : Addr) (el : Addr) (h0 : Heap) (n0 : Nat) (v : Option Value) (h : Heap) (L : List Loc) : Prop := v = none ∧ Fr n0 L ∧ Keep h0 h [p0] ∧ Exa Z h p0 "com/example/pacelint/pacelint/io/XmlElement" ∧ Fld Z h p0 "com/example/pacelint/pacelint/io/XmlElement" "namespace" "Ljava/lang/String;" (.ref p1) ∧ Fld Z h p0 "com/example/pacelint/pacelint/io/XmlElement" "localName" "Ljava/lang/String;" (.ref p2)
set_option maxRecDepth 65536 in
set_option maxHeartbeats 40000000 in
theorem rm2b (l : Launch) (Z : State) (a0 : Array Value) (hw : ∀ d ∈ tables_1, d.before a0 Z = true) (ws : List Jvm.Cond) (p0 : Addr) (p1 : Addr) (p2 : Addr) (el : Addr) (h0 : Heap) (n0 : Nat) (Z0 : n0 ≤ h0.size) (P_Old : Old Z n0 h0) (P_ZS_java_util_ImmutableCollections_EMPTY_LIST : Sta Z Z.heap "java/util/ImmutableCollections" "EMPTY_LIST" "Ljava/util/ImmutableCollections$ListN;" (.ref el)) (P_E_p0 : Exa Z h0 p0 "com/example/pacelint/pacelint/io/XmlElement") (P_F_p0_children : Fld Z h0 p0 "com/example/pacelint/pacelint/io/XmlElement" "children" "Ljava/util/List;" .null) (P_F_p0_text : Fld Z h0 p0 "com/example/pacelint/pacelint/io/XmlElement" "text" "Ljava/lang/String;" .null) (P_F_p0_namespace : Fld Z h0 p0 "com/example/pacelint/pacelint/io/XmlElement" "namespace" "Ljava/lang/String;" .null) (P_F_p0_localName : Fld Z h0 p0 "com/example/pacelint/pacelint/io/XmlElement" "localName" "Ljava/lang/String;" .null) (P_F_p0_location : Fld Z h0 p0 "com/example/pacelint/pacelint/io/XmlElement" "location" "Lcom/example/pacelint/pacelint/model/Location;" .null) (P_F_p0_attributes : Fld Z h0 p0 "com/example/pacelint/pacelint/io/XmlElement" "attributes" "Ljava/util/Map;" .null) (g_p0 : n0 ≤ p0) :
    MetFree l (⟨"com/example/pacelint/pacelint/io/XmlElement", "<init>", "(Ljava/lang/String;Ljava/lang/String;Lcom/example/pacelint/pacelint/model/Location;Ljava/util/Map;)V"⟩ : MethodName) (head1 (Jvm.Cond.code (⟨"com/example/pacelint/pacelint/io/XmlElement", "<init>", "(Ljava/lang/String;Ljava/lang/String;Lcom/example/pacelint/pacelint/model/Location;Ljava/util/Map;)V"⟩ : MethodName) prog_56_method_1_code 5 none :: ws) ({ frames := 1, cells := 2, slots := 4, locals := 12 } : Room)) (fun a U => a = #[(.ref p0), (.ref p1), (.ref p2), .null, .null] ∧ Z.Warmed39 U.vm ∧ U.heap = h0 ∧ CHv Z own_EL U.vm h0) (fun _ _ _ _ _ => True) (fun _ U o U' => ∃ v L, o = .returned v ∧ (Q2b Z p0 p1 p2 el h0 n0) v U'.heap L ∧ CHr Z own_EL U.vm U.heap U'.vm U'.heap ∧ ReturnedEndW U o U' L ({ frames := 1, cells := 2, slots := 4, locals := 12 } : Room).cells ({ frames := 1, cells := 2, slots := 4, locals := 12 } : Room).slots) := by
  refine MetFree.of_bodySF (plainFor_of_name pn_4) hisR ?_
  intro p e s m args below meth c s₁ Bd hml0 hP hK
  obtain ⟨rfl, hZ, hh, H0⟩ := hP
  have hx := Bd.exec
  have hby := Bd.bytes
  have hml : c.maxLocals = 5 := hml0
  have hown : s.vm.findClass "com/example/pacelint/pacelint/io/XmlElement" = some m.cls := findClass_of_methodNamed Bd.named
  have hnm := (name_of_methodNamed Bd.named Bd.method).1
  have hlk : meth.locks = false := BodyLoose.notSynchronized Bd
  have X0 : Stand p l e ({ frames := 1, cells := 2, slots := 4, locals := 12 } : Room) (s.setVm s.vm) m #[(.ref p0), (.ref p1), (.ref p2), .null, .null] below meth c s₁ [] 0 0 := Stand.of_body Bd
  have e0 : s₁.heap = h0 := by rw [← hh, Bd.state]; rfl
  have N0 := Fr.nil n0
  have hS0 := (State.WarmedH.refl s).since s.heap.size
  have hk0 : s.heap.size ≤ h0.size := by rw [hh]; exact Nat.le_refl _
  have CR0 : CHr Z own_EL s.vm h0 s.vm h0 := CHr.refl H0
  have KS0 : Keep h0 h0 [p0] := Keep.refl _ _
  have sf0_p0 : Safe Z own_EL s.vm h0 p0 := (Safe.exa hZ.alike P_E_p0 (by decide) (by decide))
  have K0 : Keep h0 h0 [p0] := Keep.refl h0 [p0]
  show own_GW p.tables e below (s₁.setTop (entryFrame m #[(.ref p0), (.ref p1), (.ref p2), .null, .null] 5)) s ({ frames := 1, cells := 2, slots := 4, locals := 12 } : Room).cells ({ frames := 1, cells := 2, slots := 4, locals := 12 } : Room).slots Z own_EL (Q2b Z p0 p1 p2 el h0 n0)
  refine own_goW (fun _ k => castTop (ef_2b m p0 p1 p2) k) ?_
  show own_GW _ _ _ (s₁.setTop (mkF m 0 #[.val (.ref p0), .val (.ref p1), .val (.ref p2), .val .null, .val .null] [])) _ _ _ _ _ _
  refine own_goW (fun _ k => XS.aloadN X0.here hx rfl (hb hby d2_0) rfl rfl k) ?_
  show own_GW _ _ _ (s₁.setTop (mkF m 1 #[.val (.ref p0), .val (.ref p1), .val (.ref p2), .val .null, .val .null] [(.ref p0)])) _ _ _ _ _ _
  obtain ⟨T1, X1, e1, st1⟩ := initO X0 hx hZ hown (hw _ (List.mem_of_getElem? (i := 18) rfl)) (hw _ (List.mem_of_getElem? (i := 19) rfl)) (hw _ (List.mem_of_getElem? (i := 20) rfl)) e0 (g := (mkF m 1 #[.val (.ref p0), .val (.ref p1), .val (.ref p2), .val .null, .val .null] [(.ref p0)])) rfl (by rw [hml]; rfl) rfl (hb hby d2_1) (by decide) (W := 0) (by show 2 * 0 + _ ≤ _; exact Nat.le_of_eq rfl) (by decide)
  refine own_goW (fun _ k => st1 _ k) ?_
  show own_GW _ _ _ (T1.setTop (mkF m 4 #[.val (.ref p0), .val (.ref p1), .val (.ref p2), .val .null, .val .null] [])) _ _ _ _ _ _
  refine own_goW (fun _ k => XS.aloadN X1.here hx rfl (hb hby d2_4) rfl rfl k) ?_
  show own_GW _ _ _ (T1.setTop (mkF m 5 #[.val (.ref p0), .val (.ref p1), .val (.ref p2), .val .null, .val .null] [(.ref p0)])) _ _ _ _ _ _
  obtain ⟨_, _, ⟨T2, L2, k2, n2⟩, -, X2, ⟨Lc2, hQ2, l2, y2, z2⟩, st2⟩ := Jvm.LawKit.callS X1 hx (y := (⟨"java/util/List", "of", "()Ljava/util/List;"⟩ : MethodName)) hown (mvT hZ (hw _ (List.mem_of_getElem? (i := 21) rfl))) (mvT hZ (hw _ (List.mem_of_getElem? (i := 22) rfl))) (mvT hZ (hw _ (List.mem_of_getElem? (i := 23) rfl))) (mvT hZ (hw _ (List.mem_of_getElem? (i := 24) rfl))) (by decide) (backOf (W := 1) (rm4 l Z a0 hw []  el h0 n0 Z0 P_Old P_ZS_java_util_ImmutableCollections_EMPTY_LIST) hZ (hw _ (List.mem_of_getElem? (i := 24) rfl)) (hw _ (List.mem_of_getElem? (i := 23) rfl)) (by decide) (by decide)) (g := (mkF m 5 #[.val (.ref p0), .val (.ref p1), .val (.ref p2), .val .null, .val .null] [(.ref p0)])) rfl (by rw [hml]; rfl) (argsL := []) (rest := [(.ref p0)]) (lenOf pd_5 rfl) rfl (by show 2 * 0 + _ ≤ _; exact Nat.le_of_eq rfl) (hb hby d2_5) (fun _ _ => ⟨rfl, e1, (by decide : 0 + 0 ≤ _), (by decide : 0 + 0 ≤ _)⟩)
  dsimp only [Pt.U, Pt.locs, Pt.cells, Pt.slots] at X2 l2 y2 z2 st2 hQ2
  subst l2 y2 z2
  obtain ⟨rfl, Nq2, eh2⟩ := hQ2
  have N2 := Fr.app N0 Nq2
  refine own_goW (fun _ k => st2 _ k) ?_
  show own_GW _ _ _ (T2.setTop (mkF m 8 #[.val (.ref p0), .val (.ref p1), .val (.ref p2), .val .null, .val .null] [(.ref el), (.ref p0)])) _ _ _ _ _ _
  obtain ⟨T3, h3, X3, e3, W3, st3⟩ := putF X2 hx hZ hown (host := "") (Or.inl (hw _ (List.mem_of_getElem? (i := 27) rfl))) Via.refl eh2 P_F_p0_children P_E_p0 (Or.inl (hw _ (List.mem_of_getElem? (i := 28) rfl))) (hw _ (List.mem_of_getElem? (i := 13) rfl)) (ty := (.object "java/util/List")) (by decide) rfl rfl (g := (mkF m 8 #[.val (.ref p0), .val (.ref p1), .val (.ref p2), .val .null, .val .null] [(.ref el), (.ref p0)])) rfl rfl (hb hby d2_8)
  have N3 := Fr.snoc X3 N2 g_p0
  have Zs3 : n0 ≤ h3.size := Nat.le_trans Z0 (Keep.of_wr W3).1
  have K3_0 : Keep h0 h3 [p0] := K0.wr W3 (Or.inl (List.mem_of_getElem? (i := 0) rfl))
  have K3_1 : Keep h0 h3 [p0] := KS0.wr W3 (Or.inl (List.mem_of_getElem? (i := 0) rfl))
  have f4 : Old Z n0 h3 := P_Old.wr W3 g_p0
  have f5 : Exa Z h3 p0 "com/example/pacelint/pacelint/io/XmlElement" := P_E_p0.wr W3
  have f6 : Fld Z h3 p0 "com/example/pacelint/pacelint/io/XmlElement" "children" "Ljava/util/List;" (.ref el) := P_F_p0_children.same W3
  have f7 : Fld Z h3 p0 "com/example/pacelint/pacelint/io/XmlElement" "text" "Ljava/lang/String;" .null := P_F_p0_text.other W3 (Or.inr (slot_ne (Or.inl (hw _ (List.mem_of_getElem? (i := 31) rfl))) (Or.inl (hw _ (List.mem_of_getElem? (i := 28) rfl))) (by decide) (t := (.object "java/lang/String")) (t' := (.object "java/util/List")) (by decide) (by decide)))
  have f8 : Fld Z h3 p0 "com/example/pacelint/pacelint/io/XmlElement" "namespace" "Ljava/lang/String;" .null := P_F_p0_namespace.other W3 (Or.inr (slot_ne (Or.inr (hw _ (List.mem_of_getElem? (i := 33) rfl))) (Or.inl (hw _ (List.mem_of_getElem? (i := 28) rfl))) (by decide) (t := (.object "java/lang/String")) (t' := (.object "java/util/List")) (by decide) (by decide)))
  have f9 : Fld Z h3 p0 "com/example/pacelint/pacelint/io/XmlElement" "localName" "Ljava/lang/String;" .null := P_F_p0_localName.other W3 (Or.inr (slot_ne (Or.inr (hw _ (List.mem_of_getElem? (i := 35) rfl))) (Or.inl (hw _ (List.mem_of_getElem? (i := 28) rfl))) (by decide) (t := (.object "java/lang/String")) (t' := (.object "java/util/List")) (by decide) (by decide)))
  have f10 : Fld Z h3 p0 "com/example/pacelint/pacelint/io/XmlElement" "location" "Lcom/example/pacelint/pacelint/model/Location;" .null := P_F_p0_location.other W3 (Or.inr (slot_ne (Or.inr (hw _ (List.mem_of_getElem? (i := 37) rfl))) (Or.inl (hw _ (List.mem_of_getElem? (i := 28) rfl))) (by decide) (t := (.object "com/example/pacelint/pacelint/model/Location")) (t' := (.object "java/util/List")) (by decide) (by decide)))
  have f11 : Fld Z h3 p0 "com/example/pacelint/pacelint/io/XmlElement" "attributes" "Ljava/util/Map;" .null := P_F_p0_attributes.other W3 (Or.inr (slot_ne (Or.inr (hw _ (List.mem_of_getElem? (i := 39) rfl))) (Or.inl (hw _ (List.mem_of_getElem? (i := 28) rfl))) (by decide) (t := (.object "java/util/Map")) (t' := (.object "java/util/List")) (by decide) (by decide)))
  refine own_goW (fun _ k => st3 _ k) ?_
  show own_GW _ _ _ (T3.setTop (mkF m 11 #[.val (.ref p0), .val (.ref p1), .val (.ref p2), .val .null, .val .null] [])) _ _ _ _ _ _
  refine own_goW (fun _ k => XS.aloadN X3.here hx rfl (hb hby d2_11) rfl rfl k) ?_
  show own_GW _ _ _ (T3.setTop (mkF m 12 #[.val (.ref p0), .val (.ref p1), .val (.ref p2), .val .null, .val .null] [(.ref p0)])) _ _ _ _ _ _
  have CQ12 := CR0.trans (CHr.keep K3_1 (allS (sf0_p0) all0) CR0.1)
  obtain ⟨a12, T12, h12, k112, b12, kb12, X12, e12, E12, hS12, hk12, hZ, hown, xa12, cd12, vl12, vb12, la12, lb12, CC12, Lt12, nea12, st12⟩ := ldcCH X3 hx hZ hown (hw _ (List.mem_of_getElem? (i := 29) rfl)) (own_wS hw) e3 hS0 (Nat.le_trans hk0 K3_1.1) (own_EW hw) (by simp [own_EL]) CQ12.1 (vs := []) (z := (0 : Int32)) ⟨by decide, rfl⟩ (by decide) rfl (g := (mkF m 12 #[.val (.ref p0), .val (.ref p1), .val (.ref p2), .val .null, .val .null] [(.ref p0)])) rfl (hb hby d2_12) (n := 0) (by decide) (by decide) (by decide) (by decide)
  have CR12 := CQ12.trans CC12
  have Zs12 : n0 ≤ h12.size := Nat.le_trans Zs3 E12.1
  have K12_0 : Keep h0 h12 [p0] := K3_0.ext E12
  have f13 : Old Z n0 h12 := f4.ext E12
  have f14 : Exa Z h12 p0 "com/example/pacelint/pacelint/io/XmlElement" := f5.ext E12
  have f15 : Fld Z h12 p0 "com/example/pacelint/pacelint/io/XmlElement" "children" "Ljava/util/List;" (.ref el) := f6.ext E12
  have f16 : Fld Z h12 p0 "com/example/pacelint/pacelint/io/XmlElement" "text" "Ljava/lang/String;" .null := f7.ext E12
  have f17 : Fld Z h12 p0 "com/example/pacelint/pacelint/io/XmlElement" "namespace" "Ljava/lang/String;" .null := f8.ext E12
  have f18 : Fld Z h12 p0 "com/example/pacelint/pacelint/io/XmlElement" "localName" "Ljava/lang/String;" .null := f9.ext E12
  have f19 : Fld Z h12 p0 "com/example/pacelint/pacelint/io/XmlElement" "location" "Lcom/example/pacelint/pacelint/model/Location;" .null := f10.ext E12
  have f20 : Fld Z h12 p0 "com/example/pacelint/pacelint/io/XmlElement" "attributes" "Ljava/util/Map;" .null := f11.ext E12
  have sf21 : Safe Z own_EL T12.vm h12 p0 := (Safe.exa hZ.alike f14 (by decide) (by decide))
  have KS12 : Keep h12 h12 [p0] := Keep.refl _ _
  refine own_goW (fun _ k => st12 _ k) ?_
  show own_GW _ _ _ (T12.setTop (mkF m 14 #[.val (.ref p0), .val (.ref p1), .val (.ref p2), .val .null, .val .null] [(.ref a12), (.ref p0)])) _ _ _ _ _ _
  obtain ⟨T22, h22, X22, e22, W22, st22⟩ := putF X12 hx hZ hown (host := "") (Or.inl (hw _ (List.mem_of_getElem? (i := 30) rfl))) Via.refl e12 f16 f14 (Or.inl (hw _ (List.mem_of_getElem? (i := 31) rfl))) (hw _ (List.mem_of_getElem? (i := 13) rfl)) (ty := (.object "java/lang/String")) (by decide) rfl rfl (g := (mkF m 14 #[.val (.ref p0), .val (.ref p1), .val (.ref p2), .val .null, .val .null] [(.ref a12), (.ref p0)])) rfl rfl (hb hby d2_14)
  have N22 := Fr.snoc X22 N3 g_p0
  have Zs22 : n0 ≤ h22.size := Nat.le_trans Zs12 (Keep.of_wr W22).1
  have K22_0 : Keep h0 h22 [p0] := K12_0.wr W22 (Or.inl (List.mem_of_getElem? (i := 0) rfl))
  have K22_1 : Keep h12 h22 [p0] := KS12.wr W22 (Or.inl (List.mem_of_getElem? (i := 0) rfl))
  have f23 : Old Z n0 h22 := f13.wr W22 g_p0
  have f24 : Exa Z h22 p0 "com/example/pacelint/pacelint/io/XmlElement" := f14.wr W22
  have f25 : Fld Z h22 p0 "com/example/pacelint/pacelint/io/XmlElement" "children" "Ljava/util/List;" (.ref el) := f15.other W22 (Or.inr (slot_ne (Or.inl (hw _ (List.mem_of_getElem? (i := 28) rfl))) (Or.inl (hw _ (List.mem_of_getElem? (i := 31) rfl))) (by decide) (t := (.object "java/util/List")) (t' := (.object "java/lang/String")) (by decide) (by decide)))
  have f26 : Fld Z h22 p0 "com/example/pacelint/pacelint/io/XmlElement" "text" "Ljava/lang/String;" (.ref a12) := f16.same W22
  have f27 : Fld Z h22 p0 "com/example/pacelint/pacelint/io/XmlElement" "namespace" "Ljava/lang/String;" .null := f17.other W22 (Or.inr (slot_ne (Or.inr (hw _ (List.mem_of_getElem? (i := 33) rfl))) (Or.inl (hw _ (List.mem_of_getElem? (i := 31) rfl))) (by decide) (t := (.object "java/lang/String")) (t' := (.object "java/lang/String")) (by decide) (by decide)))
  have f28 : Fld Z h22 p0 "com/example/pacelint/pacelint/io/XmlElement" "localName" "Ljava/lang/String;" .null := f18.other W22 (Or.inr (slot_ne (Or.inr (hw _ (List.mem_of_getElem? (i := 35) rfl))) (Or.inl (hw _ (List.mem_of_getElem? (i := 31) rfl))) (by decide) (t := (.object "java/lang/String")) (t' := (.object "java/lang/String")) (by decide) (by decide)))
  have f29 : Fld Z h22 p0 "com/example/pacelint/pacelint/io/XmlElement" "location" "Lcom/example/pacelint/pacelint/model/Location;" .null := f19.other W22 (Or.inr (slot_ne (Or.inr (hw _ (List.mem_of_getElem? (i := 37) rfl))) (Or.inl (hw _ (List.mem_of_getElem? (i := 31) rfl))) (by decide) (t := (.object "com/example/pacelint/pacelint/model/Location")) (t' := (.object "java/lang/String")) (by decide) (by decide)))
  have f30 : Fld Z h22 p0 "com/example/pacelint/pacelint/io/XmlElement" "attributes" "Ljava/util/Map;" .null := f20.other W22 (Or.inr (slot_ne (Or.inr (hw _ (List.mem_of_getElem? (i := 39) rfl))) (Or.inl (hw _ (List.mem_of_getElem? (i := 31) rfl))) (by decide) (t := (.object "java/util/Map")) (t' := (.object "java/lang/String")) (by decide) (by decide)))
  have f31 : Exa Z h22 a12 "java/lang/String" := xa12.wr W22
  have f32 : Fld Z h22 a12 "java/lang/String" "coder" "B" (.int 0) := cd12.other W22 (Or.inl (ne_exa xa12 f14 (by decide)))
  have f33 : Fld Z h22 a12 "java/lang/String" "value" "[B" (.ref b12) := vl12.other W22 (Or.inl (ne_exa xa12 f14 (by decide)))
  have f34 : Arv Z h22 b12 kb12 .byte (0 : Int32) [] (.int (0 : Int32)) := vb12.other W22 (Ne.symm (by obtain ⟨c_, A_, -⟩ := vb12; exact ne_arr f14 (hw _ (List.mem_of_getElem? (i := 13) rfl)) A_))
  refine own_goW (fun _ k => st22 _ k) ?_
  show own_GW _ _ _ (T22.setTop (mkF m 17 #[.val (.ref p0), .val (.ref p1), .val (.ref p2), .val .null, .val .null] [])) _ _ _ _ _ _
  refine own_goW (fun _ k => XS.aloadN X22.here hx rfl (hb hby d2_17) rfl rfl k) ?_
  show own_GW _ _ _ (T22.setTop (mkF m 18 #[.val (.ref p0), .val (.ref p1), .val (.ref p2), .val .null, .val .null] [(.ref p0)])) _ _ _ _ _ _
  refine own_goW (fun _ k => XS.aloadN X22.here hx rfl (hb hby d2_18) rfl rfl k) ?_
  show own_GW _ _ _ (T22.setTop (mkF m 19 #[.val (.ref p0), .val (.ref p1), .val (.ref p2), .val .null, .val .null] [(.ref p1), (.ref p0)])) _ _ _ _ _ _
  obtain ⟨T35, h35, X35, e35, W35, st35⟩ := putF X22 hx hZ hown (host := "") (Or.inl (hw _ (List.mem_of_getElem? (i := 32) rfl))) Via.refl e22 f27 f24 (Or.inr ⟨(hw _ (List.mem_of_getElem? (i := 33) rfl)), rfl, hnm⟩) (hw _ (List.mem_of_getElem? (i := 13) rfl)) (ty := (.object "java/lang/String")) (by decide) rfl rfl (g := (mkF m 19 #[.val (.ref p0), .val (.ref p1), .val (.ref p2), .val .null, .val .null] [(.ref p1), (.ref p0)])) rfl rfl (hb hby d2_19)
  have N35 := Fr.snoc X35 N22 g_p0
  have Zs35 : n0 ≤ h35.size := Nat.le_trans Zs22 (Keep.of_wr W35).1
  have K35_0 : Keep h0 h35 [p0] := K22_0.wr W35 (Or.inl (List.mem_of_getElem? (i := 0) rfl))
  have K35_1 : Keep h12 h35 [p0] := K22_1.wr W35 (Or.inl (List.mem_of_getElem? (i := 0) rfl))
  have f36 : Old Z n0 h35 := f23.wr W35 g_p0
  have f37 : Exa Z h35 p0 "com/example/pacelint/pacelint/io/XmlElement" := f24.wr W35
  have f38 : Fld Z h35 p0 "com/example/pacelint/pacelint/io/XmlElement" "children" "Ljava/util/List;" (.ref el) := f25.other W35 (Or.inr (slot_ne (Or.inl (hw _ (List.mem_of_getElem? (i := 28) rfl))) (Or.inr (hw _ (List.mem_of_getElem? (i := 33) rfl))) (by decide) (t := (.object "java/util/List")) (t' := (.object "java/lang/String")) (by decide) (by decide)))
  have f39 : Fld Z h35 p0 "com/example/pacelint/pacelint/io/XmlElement" "text" "Ljava/lang/String;" (.ref a12) := f26.other W35 (Or.inr (slot_ne (Or.inl (hw _ (List.mem_of_getElem? (i := 31) rfl))) (Or.inr (hw _ (List.mem_of_getElem? (i := 33) rfl))) (by decide) (t := (.object "java/lang/String")) (t' := (.object "java/lang/String")) (by decide) (by decide)))
  have f40 : Fld Z h35 p0 "com/example/pacelint/pacelint/io/XmlElement" "namespace" "Ljava/lang/String;" (.ref p1) := f27.same W35
  have f41 : Fld Z h35 p0 "com/example/pacelint/pacelint/io/XmlElement" "localName" "Ljava/lang/String;" .null := f28.other W35 (Or.inr (slot_ne (Or.inr (hw _ (List.mem_of_getElem? (i := 35) rfl))) (Or.inr (hw _ (List.mem_of_getElem? (i := 33) rfl))) (by decide) (t := (.object "java/lang/String")) (t' := (.object "java/lang/String")) (by decide) (by decide)))
  have f42 : Fld Z h35 p0 "com/example/pacelint/pacelint/io/XmlElement" "location" "Lcom/example/pacelint/pacelint/model/Location;" .null := f29.other W35 (Or.inr (slot_ne (Or.inr (hw _ (List.mem_of_getElem? (i := 37) rfl))) (Or.inr (hw _ (List.mem_of_getElem? (i := 33) rfl))) (by decide) (t := (.object "com/example/pacelint/pacelint/model/Location")) (t' := (.object "java/lang/String")) (by decide) (by decide)))
  have f43 : Fld Z h35 p0 "com/example/pacelint/pacelint/io/XmlElement" "attributes" "Ljava/util/Map;" .null := f30.other W35 (Or.inr (slot_ne (Or.inr (hw _ (List.mem_of_getElem? (i := 39) rfl))) (Or.inr (hw _ (List.mem_of_getElem? (i := 33) rfl))) (by decide) (t := (.object "java/util/Map")) (t' := (.object "java/lang/String")) (by decide) (by decide)))
  have f44 : Exa Z h35 a12 "java/lang/String" := f31.wr W35
  have f45 : Fld Z h35 a12 "java/lang/String" "coder" "B" (.int 0) := f32.other W35 (Or.inl (ne_exa f31 f24 (by decide)))
  have f46 : Fld Z h35 a12 "java/lang/String" "value" "[B" (.ref b12) := f33.other W35 (Or.inl (ne_exa f31 f24 (by decide)))
  have f47 : Arv Z h35 b12 kb12 .byte (0 : Int32) [] (.int (0 : Int32)) := f34.other W35 (Ne.symm (by obtain ⟨c_, A_, -⟩ := f34; exact ne_arr f24 (hw _ (List.mem_of_getElem? (i := 13) rfl)) A_))
  refine own_goW (fun _ k => st35 _ k) ?_
  show own_GW _ _ _ (T35.setTop (mkF m 22 #[.val (.ref p0), .val (.ref p1), .val (.ref p2), .val .null, .val .null] [])) _ _ _ _ _ _
  refine own_goW (fun _ k => XS.aloadN X35.here hx rfl (hb hby d2_22) rfl rfl k) ?_
  show own_GW _ _ _ (T35.setTop (mkF m 23 #[.val (.ref p0), .val (.ref p1), .val (.ref p2), .val .null, .val .null] [(.ref p0)])) _ _ _ _ _ _
  refine own_goW (fun _ k => XS.aloadN X35.here hx rfl (hb hby d2_23) rfl rfl k) ?_
  show own_GW _ _ _ (T35.setTop (mkF m 24 #[.val (.ref p0), .val (.ref p1), .val (.ref p2), .val .null, .val .null] [(.ref p2), (.ref p0)])) _ _ _ _ _ _
  obtain ⟨T48, h48, X48, e48, W48, st48⟩ := putF X35 hx hZ hown (host := "") (Or.inl (hw _ (List.mem_of_getElem? (i := 34) rfl))) Via.refl e35 f41 f37 (Or.inr ⟨(hw _ (List.mem_of_getElem? (i := 35) rfl)), rfl, hnm⟩) (hw _ (List.mem_of_getElem? (i := 13) rfl)) (ty := (.object "java/lang/String")) (by decide) rfl rfl (g := (mkF m 24 #[.val (.ref p0), .val (.ref p1), .val (.ref p2), .val .null, .val .null] [(.ref p2), (.ref p0)])) rfl rfl (hb hby d2_24)
  have N48 := Fr.snoc X48 N35 g_p0
  have Zs48 : n0 ≤ h48.size := Nat.le_trans Zs35 (Keep.of_wr W48).1
  have K48_0 : Keep h0 h48 [p0] := K35_0.wr W48 (Or.inl (List.mem_of_getElem? (i := 0) rfl))
  have K48_1 : Keep h12 h48 [p0] := K35_1.wr W48 (Or.inl (List.mem_of_getElem? (i := 0) rfl))
  have f49 : Old Z n0 h48 := f36.wr W48 g_p0
  have f50 : Exa Z h48 p0 "com/example/pacelint/pacelint/io/XmlElement" := f37.wr W48
  have f51 : Fld Z h48 p0 "com/example/pacelint/pacelint/io/XmlElement" "children" "Ljava/util/List;" (.ref el) := f38.other W48 (Or.inr (slot_ne (Or.inl (hw _ (List.mem_of_getElem? (i := 28) rfl))) (Or.inr (hw _ (List.mem_of_getElem? (i := 35) rfl))) (by decide) (t := (.object "java/util/List")) (t' := (.object "java/lang/String")) (by decide) (by decide)))
  have f52 : Fld Z h48 p0 "com/example/pacelint/pacelint/io/XmlElement" "text" "Ljava/lang/String;" (.ref a12) := f39.other W48 (Or.inr (slot_ne (Or.inl (hw _ (List.mem_of_getElem? (i := 31) rfl))) (Or.inr (hw _ (List.mem_of_getElem? (i := 35) rfl))) (by decide) (t := (.object "java/lang/String")) (t' := (.object "java/lang/String")) (by decide) (by decide)))
  have f53 : Fld Z h48 p0 "com/example/pacelint/pacelint/io/XmlElement" "namespace" "Ljava/lang/String;" (.ref p1) := f40.other W48 (Or.inr (slot_ne (Or.inr (hw _ (List.mem_of_getElem? (i := 33) rfl))) (Or.inr (hw _ (List.mem_of_getElem? (i := 35) rfl))) (by decide) (t := (.object "java/lang/String")) (t' := (.object "java/lang/String")) (by decide) (by decide)))
  have f54 : Fld Z h48 p0 "com/example/pacelint/pacelint/io/XmlElement" "localName" "Ljava/lang/String;" (.ref p2) := f41.same W48
  have f55 : Fld Z h48 p0 "com/example/pacelint/pacelint/io/XmlElement" "location" "Lcom/example/pacelint/pacelint/model/Location;" .null := f42.other W48 (Or.inr (slot_ne (Or.inr (hw _ (List.mem_of_getElem? (i := 37) rfl))) (Or.inr (hw _ (List.mem_of_getElem? (i := 35) rfl))) (by decide) (t := (.object "com/example/pacelint/pacelint/model/Location")) (t' := (.object "java/lang/String")) (by decide) (by decide)))
  have f56 : Fld Z h48 p0 "com/example/pacelint/pacelint/io/XmlElement" "attributes" "Ljava/util/Map;" .null := f43.other W48 (Or.inr (slot_ne (Or.inr (hw _ (List.mem_of_getElem? (i := 39) rfl))) (Or.inr (hw _ (List.mem_of_getElem? (i := 35) rfl))) (by decide) (t := (.object "java/util/Map")) (t' := (.object "java/lang/String")) (by decide) (by decide)))
  have f57 : Exa Z h48 a12 "java/lang/String" := f44.wr W48
  have f58 : Fld Z h48 a12 "java/lang/String" "coder" "B" (.int 0) := f45.other W48 (Or.inl (ne_exa f44 f37 (by decide)))
  have f59 : Fld Z h48 a12 "java/lang/String" "value" "[B" (.ref b12) := f46.other W48 (Or.inl (ne_exa f44 f37 (by decide)))
  have f60 : Arv Z h48 b12 kb12 .byte (0 : Int32) [] (.int (0 : Int32)) := f47.other W48 (Ne.symm (by obtain ⟨c_, A_, -⟩ := f47; exact ne_arr f37 (hw _ (List.mem_of_getElem? (i := 13) rfl)) A_))
  refine own_goW (fun _ k => st48 _ k) ?_
  show own_GW _ _ _ (T48.setTop (mkF m 27 #[.val (.ref p0), .val (.ref p1), .val (.ref p2), .val .null, .val .null] [])) _ _ _ _ _ _
  refine own_goW (fun _ k => XS.aloadN X48.here hx rfl (hb hby d2_27) rfl rfl k) ?_
  show own_GW _ _ _ (T48.setTop (mkF m 28 #[.val (.ref p0), .val (.ref p1), .val (.ref p2), .val .null, .val .null] [(.ref p0)])) _ _ _ _ _ _
  refine own_goW (fun _ k => XS.aloadN X48.here hx rfl (hb hby d2_28) rfl rfl k) ?_
  show own_GW _ _ _ (T48.setTop (mkF m 29 #[.val (.ref p0), .val (.ref p1), .val (.ref p2), .val .null, .val .null] [.null, (.ref p0)])) _ _ _ _ _ _
  obtain ⟨T61, h61, X61, e61, W61, st61⟩ := putF X48 hx hZ hown (host := "") (Or.inl (hw _ (List.mem_of_getElem? (i := 36) rfl))) Via.refl e48 f55 f50 (Or.inr ⟨(hw _ (List.mem_of_getElem? (i := 37) rfl)), rfl, hnm⟩) (hw _ (List.mem_of_getElem? (i := 13) rfl)) (ty := (.object "com/example/pacelint/pacelint/model/Location")) (by decide) rfl rfl (g := (mkF m 29 #[.val (.ref p0), .val (.ref p1), .val (.ref p2), .val .null, .val .null] [.null, (.ref p0)])) rfl rfl (hb hby d2_29)
  have N61 := Fr.snoc X61 N48 g_p0
  have Zs61 : n0 ≤ h61.size := Nat.le_trans Zs48 (Keep.of_wr W61).1
  have K61_0 : Keep h0 h61 [p0] := K48_0.wr W61 (Or.inl (List.mem_of_getElem? (i := 0) rfl))
  have K61_1 : Keep h12 h61 [p0] := K48_1.wr W61 (Or.inl (List.mem_of_getElem? (i := 0) rfl))
  have f62 : Old Z n0 h61 := f49.wr W61 g_p0
  have f63 : Exa Z h61 p0 "com/example/pacelint/pacelint/io/XmlElement" := f50.wr W61
  have f64 : Fld Z h61 p0 "com/example/pacelint/pacelint/io/XmlElement" "children" "Ljava/util/List;" (.ref el) := f51.other W61 (Or.inr (slot_ne (Or.inl (hw _ (List.mem_of_getElem? (i := 28) rfl))) (Or.inr (hw _ (List.mem_of_getElem? (i := 37) rfl))) (by decide) (t := (.object "java/util/List")) (t' := (.object "com/example/pacelint/pacelint/model/Location")) (by decide) (by decide)))
  have f65 : Fld Z h61 p0 "com/example/pacelint/pacelint/io/XmlElement" "text" "Ljava/lang/String;" (.ref a12) := f52.other W61 (Or.inr (slot_ne (Or.inl (hw _ (List.mem_of_getElem? (i := 31) rfl))) (Or.inr (hw _ (List.mem_of_getElem? (i := 37) rfl))) (by decide) (t := (.object "java/lang/String")) (t' := (.object "com/example/pacelint/pacelint/model/Location")) (by decide) (by decide)))
  have f66 : Fld Z h61 p0 "com/example/pacelint/pacelint/io/XmlElement" "namespace" "Ljava/lang/String;" (.ref p1) := f53.other W61 (Or.inr (slot_ne (Or.inr (hw _ (List.mem_of_getElem? (i := 33) rfl))) (Or.inr (hw _ (List.mem_of_getElem? (i := 37) rfl))) (by decide) (t := (.object "java/lang/String")) (t' := (.object "com/example/pacelint/pacelint/model/Location")) (by decide) (by decide)))
  have f67 : Fld Z h61 p0 "com/example/pacelint/pacelint/io/XmlElement" "localName" "Ljava/lang/String;" (.ref p2) := f54.other W61 (Or.inr (slot_ne (Or.inr (hw _ (List.mem_of_getElem? (i := 35) rfl))) (Or.inr (hw _ (List.mem_of_getElem? (i := 37) rfl))) (by decide) (t := (.object "java/lang/String")) (t' := (.object "com/example/pacelint/pacelint/model/Location")) (by decide) (by decide)))
  have f68 : Fld Z h61 p0 "com/example/pacelint/pacelint/io/XmlElement" "location" "Lcom/example/pacelint/pacelint/model/Location;" .null := f55.same W61
  have f69 : Fld Z h61 p0 "com/example/pacelint/pacelint/io/XmlElement" "attributes" "Ljava/util/Map;" .null := f56.other W61 (Or.inr (slot_ne (Or.inr (hw _ (List.mem_of_getElem? (i := 39) rfl))) (Or.inr (hw _ (List.mem_of_getElem? (i := 37) rfl))) (by decide) (t := (.object "java/util/Map")) (t' := (.object "com/example/pacelint/pacelint/model/Location")) (by decide) (by decide)))
  have f70 : Exa Z h61 a12 "java/lang/String" := f57.wr W61
  have f71 : Fld Z h61 a12 "java/lang/String" "coder" "B" (.int 0) := f58.other W61 (Or.inl (ne_exa f57 f50 (by decide)))
  have f72 : Fld Z h61 a12 "java/lang/String" "value" "[B" (.ref b12) := f59.other W61 (Or.inl (ne_exa f57 f50 (by decide)))
  have f73 : Arv Z h61 b12 kb12 .byte (0 : Int32) [] (.int (0 : Int32)) := f60.other W61 (Ne.symm (by obtain ⟨c_, A_, -⟩ := f60; exact ne_arr f50 (hw _ (List.mem_of_getElem? (i := 13) rfl)) A_))
  refine own_goW (fun _ k => st61 _ k) ?_
  show own_GW _ _ _ (T61.setTop (mkF m 32 #[.val (.ref p0), .val (.ref p1), .val (.ref p2), .val .null, .val .null] [])) _ _ _ _ _ _
  refine own_goW (fun _ k => XS.aloadN X61.here hx rfl (hb hby d2_32) rfl rfl k) ?_
  show own_GW _ _ _ (T61.setTop (mkF m 33 #[.val (.ref p0), .val (.ref p1), .val (.ref p2), .val .null, .val .null] [(.ref p0)])) _ _ _ _ _ _
  refine own_goW (fun _ k => XS.aload X61.here hx rfl (hb hby d2_33) rfl rfl k) ?_
  show own_GW _ _ _ (T61.setTop (mkF m 35 #[.val (.ref p0), .val (.ref p1), .val (.ref p2), .val .null, .val .null] [.null, (.ref p0)])) _ _ _ _ _ _
  obtain ⟨T74, h74, X74, e74, W74, st74⟩ := putF X61 hx hZ hown (host := "") (Or.inl (hw _ (List.mem_of_getElem? (i := 38) rfl))) Via.refl e61 f69 f63 (Or.inr ⟨(hw _ (List.mem_of_getElem? (i := 39) rfl)), rfl, hnm⟩) (hw _ (List.mem_of_getElem? (i := 13) rfl)) (ty := (.object "java/util/Map")) (by decide) rfl rfl (g := (mkF m 35 #[.val (.ref p0), .val (.ref p1), .val (.ref p2), .val .null, .val .null] [.null, (.ref p0)])) rfl rfl (hb hby d2_35)
  have N74 := Fr.snoc X74 N61 g_p0
  have Zs74 : n0 ≤ h74.size := Nat.le_trans Zs61 (Keep.of_wr W74).1
  have K74_0 : Keep h0 h74 [p0] := K61_0.wr W74 (Or.inl (List.mem_of_getElem? (i := 0) rfl))
  have K74_1 : Keep h12 h74 [p0] := K61_1.wr W74 (Or.inl (List.mem_of_getElem? (i := 0) rfl))
  have f75 : Old Z n0 h74 := f62.wr W74 g_p0
  have f76 : Exa Z h74 p0 "com/example/pacelint/pacelint/io/XmlElement" := f63.wr W74
  have f77 : Fld Z h74 p0 "com/example/pacelint/pacelint/io/XmlElement" "children" "Ljava/util/List;" (.ref el) := f64.other W74 (Or.inr (slot_ne (Or.inl (hw _ (List.mem_of_getElem? (i := 28) rfl))) (Or.inr (hw _ (List.mem_of_getElem? (i := 39) rfl))) (by decide) (t := (.object "java/util/List")) (t' := (.object "java/util/Map")) (by decide) (by decide)))
  have f78 : Fld Z h74 p0 "com/example/pacelint/pacelint/io/XmlElement" "text" "Ljava/lang/String;" (.ref a12) := f65.other W74 (Or.inr (slot_ne (Or.inl (hw _ (List.mem_of_getElem? (i := 31) rfl))) (Or.inr (hw _ (List.mem_of_getElem? (i := 39) rfl))) (by decide) (t := (.object "java/lang/String")) (t' := (.object "java/util/Map")) (by decide) (by decide)))
  have f79 : Fld Z h74 p0 "com/example/pacelint/pacelint/io/XmlElement" "namespace" "Ljava/lang/String;" (.ref p1) := f66.other W74 (Or.inr (slot_ne (Or.inr (hw _ (List.mem_of_getElem? (i := 33) rfl))) (Or.inr (hw _ (List.mem_of_getElem? (i := 39) rfl))) (by decide) (t := (.object "java/lang/String")) (t' := (.object "java/util/Map")) (by decide) (by decide)))
  have f80 : Fld Z h74 p0 "com/example/pacelint/pacelint/io/XmlElement" "localName" "Ljava/lang/String;" (.ref p2) := f67.other W74 (Or.inr (slot_ne (Or.inr (hw _ (List.mem_of_getElem? (i := 35) rfl))) (Or.inr (hw _ (List.mem_of_getElem? (i := 39) rfl))) (by decide) (t := (.object "java/lang/String")) (t' := (.object "java/util/Map")) (by decide) (by decide)))
  have f81 : Fld Z h74 p0 "com/example/pacelint/pacelint/io/XmlElement" "location" "Lcom/example/pacelint/pacelint/model/Location;" .null := f68.other W74 (Or.inr (slot_ne (Or.inr (hw _ (List.mem_of_getElem? (i := 37) rfl))) (Or.inr (hw _ (List.mem_of_getElem? (i := 39) rfl))) (by decide) (t := (.object "com/example/pacelint/pacelint/model/Location")) (t' := (.object "java/util/Map")) (by decide) (by decide)))
  have f82 : Fld Z h74 p0 "com/example/pacelint/pacelint/io/XmlElement" "attributes" "Ljava/util/Map;" .null := f69.same W74
  have f83 : Exa Z h74 a12 "java/lang/String" := f70.wr W74
  have f84 : Fld Z h74 a12 "java/lang/String" "coder" "B" (.int 0) := f71.other W74 (Or.inl (ne_exa f70 f63 (by decide)))
  have f85 : Fld Z h74 a12 "java/lang/String" "value" "[B" (.ref b12) := f72.other W74 (Or.inl (ne_exa f70 f63 (by decide)))
  have f86 : Arv Z h74 b12 kb12 .byte (0 : Int32) [] (.int (0 : Int32)) := f73.other W74 (Ne.symm (by obtain ⟨c_, A_, -⟩ := f73; exact ne_arr f63 (hw _ (List.mem_of_getElem? (i := 13) rfl)) A_))
  refine own_goW (fun _ k => st74 _ k) ?_
  show own_GW _ _ _ (T74.setTop (mkF m 38 #[.val (.ref p0), .val (.ref p1), .val (.ref p2), .val .null, .val .null] [])) _ _ _ _ _ _
  have CQ87 := CR12.trans (CHr.keep K74_1 (allS sf21 all0) CR12.1)
  have CE87 : CHr Z own_EL s.vm s.heap T74.vm T74.heap := by rw [hh, show T74.heap = h74 from e74]; exact CQ87.trans (CHv.at X74 hZ (own_EW hw) CQ87.1)
  exact own_endWV X74 hx hlk Bd.returns (hb hby d2_38) hS12 (show _ ≤ T74.heap.size by rw [show T74.heap = h74 from e74]; exact (Nat.le_trans hk12 K74_1.1)) (by decide) (by decide) CE87 (Q := (Q2b Z p0 p1 p2 el h0 n0)) (by rw [e74]; exact ⟨rfl, N74, K74_0, f76, f79, f80⟩)
theorem d5_0 : decode prog_56_method_3_code 0 = .ok (.aload_n 0, 1) := by decide +kernel
theorem d5_1 : decode prog_56_method_3_code 1 = .ok (.getfield 25, 3) := by decide +kernel
theorem d5_4 : decode prog_56_method_3_code 4 = .ok (.ifnonnull 10, 3) := by decide +kernel
theorem d5_7 : decode prog_56_method_3_code 7 = .ok (.aload_n 0, 1) := by decide +kernel
theorem d5_8 : decode prog_56_method_3_code 8 = .ok (.getfield 28, 3) := by decide +kernel
theorem d5_11 : decode prog_56_method_3_code 11 = .ok (.goto 5, 3) := by decide +kernel
theorem d5_14 : decode prog_56_method_3_code 14 = .ok (.ldc 19, 2) := by decide +kernel
theorem d5_16 : decode prog_56_method_3_code 16 = .ok (.areturn, 1) := by decide +kernel
theorem ef_5a (m : MethodId) (p0 : Addr) : entryFrame m #[(.ref p0)] 1 = mkF m 0 #[.val (.ref p0)] [] := by first | (simp [entryFrame, mkF, argsToLocals, Value.category]; done) | rfl
def Q5a (Z : State) (p0 : Addr) (ln : Addr) (h0 : Heap) (n0 : Nat) (v : Option Value) (h : Heap) (L : List Loc) : Prop := v = some (.ref ln) ∧ Fr n0 L ∧ h = h0
set_option maxRecDepth 65536 in
set_option maxHeartbeats 40000000 in
theorem rm5a (l : Launch) (Z : State) (a0 : Array Value) (hw : ∀ d ∈ tables_1, d.before a0 Z = true) (ws : List Jvm.Cond) (p0 : Addr) (ln : Addr) (h0 : Heap) (n0 : Nat) (Z0 : n0 ≤ h0.size) (P_E_p0 : Exa Z h0 p0 "com/example/pacelint/pacelint/io/XmlElement") (P_F_p0_namespace : Fld Z h0 p0 "com/example/pacelint/pacelint/io/XmlElement" "namespace" "Ljava/lang/String;" .null) (P_F_p0_localName : Fld Z h0 p0 "com/example/pacelint/pacelint/io/XmlElement" "localName" "Ljava/lang/String;" (.ref ln)) :
    MetFree l (⟨"com/example/pacelint/pacelint/io/XmlElement", "autosarName", "()Ljava/lang/String;"⟩ : MethodName) (head1 (Jvm.Cond.code (⟨"com/example/pacelint/pacelint/io/XmlElement", "autosarName", "()Ljava/lang/String;"⟩ : MethodName) prog_56_method_3_code 1 (some (.object "java/lang/String")) :: ws) ({ frames := 0, cells := 0, slots := 0, locals := 0 } : Room)) (fun a U => a = #[(.ref p0)] ∧ Z.Warmed39 U.vm ∧ U.heap = h0) (fun _ _ _ _ _ => True) (fun _ U o U' => ∃ v L, o = .returned v ∧ (Q5a Z p0 ln h0 n0) v U'.heap L ∧ FrameEnd U o U' L ({ frames := 0, cells := 0, slots := 0, locals := 0 } : Room).cells ({ frames := 0, cells := 0, slots := 0, locals := 0 } : Room).slots) := by
  refine MetFree.of_bodySF (plainFor_of_name pn_4) hisR ?_
  intro p e s m args below meth c s₁ Bd hml0 hP hK
  obtain ⟨rfl, hZ, hh⟩ := hP
  have hx := Bd.exec
  have hby := Bd.bytes
  have hml : c.maxLocals = 1 := hml0
  have hown : s.vm.findClass "com/example/pacelint/pacelint/io/XmlElement" = some m.cls := findClass_of_methodNamed Bd.named
  have hnm := (name_of_methodNamed Bd.named Bd.method).1
  have hlk : meth.locks = false := BodyLoose.notSynchronized Bd
  have X0 : Stand p l e ({ frames := 0, cells := 0, slots := 0, locals := 0 } : Room) s m #[(.ref p0)] below meth c s₁ [] 0 0 := Stand.of_body Bd
  have e0 : s₁.heap = h0 := by rw [← hh, Bd.state]; rfl
  have N0 := Fr.nil n0
  show own_G p.tables e below (s₁.setTop (entryFrame m #[(.ref p0)] 1)) s ({ frames := 0, cells := 0, slots := 0, locals := 0 } : Room).cells ({ frames := 0, cells := 0, slots := 0, locals := 0 } : Room).slots (Q5a Z p0 ln h0 n0)
  refine own_go (fun _ k => castTop (ef_5a m p0) k) ?_
  show own_G _ _ _ (s₁.setTop (mkF m 0 #[.val (.ref p0)] [])) _ _ _ _
  refine own_go (fun _ k => XS.aloadN X0.here hx rfl (hb hby d5_0) rfl rfl k) ?_
  show own_G _ _ _ (s₁.setTop (mkF m 1 #[.val (.ref p0)] [(.ref p0)])) _ _ _ _
  obtain ⟨T1, X1, e1, st1⟩ := getF X0 hx hZ hown (host := "") (Or.inl (hw _ (List.mem_of_getElem? (i := 32) rfl))) Via.refl e0 P_F_p0_namespace (g := (mkF m 1 #[.val (.ref p0)] [(.ref p0)])) rfl rfl (hb hby d5_1)
  refine own_go (fun _ k => st1 _ k) ?_
  show own_G _ _ _ (T1.setTop (mkF m 4 #[.val (.ref p0)] [.null])) _ _ _ _
  refine own_go (fun _ k => XS.ifnonnullNo X1.here hx rfl (hb hby d5_4) rfl k) ?_
  show own_G _ _ _ (T1.setTop (mkF m 7 #[.val (.ref p0)] [])) _ _ _ _
  refine own_go (fun _ k => XS.aloadN X1.here hx rfl (hb hby d5_7) rfl rfl k) ?_
  show own_G _ _ _ (T1.setTop (mkF m 8 #[.val (.ref p0)] [(.ref p0)])) _ _ _ _
  obtain ⟨T2, X2, e2, st2⟩ := getF X1 hx hZ hown (host := "") (Or.inl (hw _ (List.mem_of_getElem? (i := 34) rfl))) Via.refl e1 P_F_p0_localName (g := (mkF m 8 #[.val (.ref p0)] [(.ref p0)])) rfl rfl (hb hby d5_8)
  refine own_go (fun _ k => st2 _ k) ?_
  show own_G _ _ _ (T2.setTop (mkF m 11 #[.val (.ref p0)] [(.ref ln)])) _ _ _ _
  refine own_go (fun _ k => XS.goto X2.here hx rfl (pc0 := 11) (pc' := 16) rfl (hb hby d5_11) (by decide) (by decide) k) ?_
  show own_G _ _ _ (T2.setTop (mkF m 16 #[.val (.ref p0)] [(.ref ln)])) _ _ _ _
  exact own_endR X2 hx hlk Bd.returns rfl rfl rfl (hb hby d5_16) (by decide) (by decide) (Q := (Q5a Z p0 ln h0 n0)) (by rw [e2]; exact ⟨rfl, N0, rfl⟩)
def Q5b (Z : State) (p0 : Addr) (ns : Addr) (ln : Addr) (h0 : Heap) (n0 : Nat) (v : Option Value) (h : Heap) (L : List Loc) : Prop := ∃ (a : Addr) (t : Addr) (kt : ClassId), v = some (.ref a) ∧ Fr n0 L ∧ Keep h0 h [] ∧ Exa Z h a "java/lang/String" ∧ Fld Z h a "java/lang/String" "value" "[B" (.ref t) ∧ Arv Z h t kt .byte (0 : Int32) [] (.int (0 : Int32))
set_option maxRecDepth 65536 in
set_option maxHeartbeats 40000000 in
theorem rm5b (l : Launch) (Z : State) (a0 : Array Value) (hw : ∀ d ∈ tables_1, d.before a0 Z = true) (ws : List Jvm.Cond) (p0 : Addr) (ns : Addr) (ln : Addr) (h0 : Heap) (n0 : Nat) (Z0 : n0 ≤ h0.size) (P_E_p0 : Exa Z h0 p0 "com/example/pacelint/pacelint/io/XmlElement") (P_F_p0_namespace : Fld Z h0 p0 "com/example/pacelint/pacelint/io/XmlElement" "namespace" "Ljava/lang/String;" (.ref ns)) (P_F_p0_localName : Fld Z h0 p0 "com/example/pacelint/pacelint/io/XmlElement" "localName" "Ljava/lang/String;" (.ref ln)) :
    MetFree l (⟨"com/example/pacelint/pacelint/io/XmlElement", "autosarName", "()Ljava/lang/String;"⟩ : MethodName) (head1 (Jvm.Cond.code (⟨"com/example/pacelint/pacelint/io/XmlElement", "autosarName", "()Ljava/lang/String;"⟩ : MethodName) prog_56_method_3_code 1 (some (.object "java/lang/String")) :: ws) ({ frames := 0, cells := 2, slots := 4, locals := 0 } : Room)) (fun a U => a = #[(.ref p0)] ∧ Z.Warmed39 U.vm ∧ U.heap = h0 ∧ CHv Z own_EL U.vm h0) (fun _ _ _ _ _ => True) (fun _ U o U' => ∃ v L, o = .returned v ∧ (Q5b Z p0 ns ln h0 n0) v U'.heap L ∧ CHr Z own_EL U.vm U.heap U'.vm U'.heap ∧ ReturnedEndW U o U' L ({ frames := 0, cells := 2, slots := 4, locals := 0 } : Room).cells ({ frames := 0, cells := 2, slots := 4, locals := 0 } : Room).slots) := by
  refine MetFree.of_bodySF (plainFor_of_name pn_4) hisR ?_
  intro p e s m args below meth c s₁ Bd hml0 hP hK
  obtain ⟨rfl, hZ, hh, H0⟩ := hP
  have hx := Bd.exec
  have hby := Bd.bytes
  have hml : c.maxLocals = 1 := hml0
  have hown : s.vm.findClass "com/example/pacelint/pacelint/io/XmlElement" = some m.cls := findClass_of_methodNamed Bd.named
  have hnm := (name_of_methodNamed Bd.named Bd.method).1
  have hlk : meth.locks = false := BodyLoose.notSynchronized Bd
  have X0 : Stand p l e ({ frames := 0, cells := 2, slots := 4, locals := 0 } : Room) (s.setVm s.vm) m #[(.ref p0)] below meth c s₁ [] 0 0 := Stand.of_body Bd
  have e0 : s₁.heap = h0 := by rw [← hh, Bd.state]; rfl
  have N0 := Fr.nil n0
  have hS0 := (State.WarmedH.refl s).since s.heap.size
  have hk0 : s.heap.size ≤ h0.size := by rw [hh]; exact Nat.le_refl _
  have CR0 : CHr Z own_EL s.vm h0 s.vm h0 := CHr.refl H0
  have KS0 : Keep h0 h0 [] := Keep.refl _ _
  have K0 : Keep h0 h0 [] := Keep.refl h0 []
  show own_GW p.tables e below (s₁.setTop (entryFrame m #[(.ref p0)] 1)) s ({ frames := 0, cells := 2, slots := 4, locals := 0 } : Room).cells ({ frames := 0, cells := 2, slots := 4, locals := 0 } : Room).slots Z own_EL (Q5b Z p0 ns ln h0 n0)
  refine own_goW (fun _ k => castTop (ef_5a m p0) k) ?_
  show own_GW _ _ _ (s₁.setTop (mkF m 0 #[.val (.ref p0)] [])) _ _ _ _ _ _
  refine own_goW (fun _ k => XS.aloadN X0.here hx rfl (hb hby d5_0) rfl rfl k) ?_
  show own_GW _ _ _ (s₁.setTop (mkF m 1 #[.val (.ref p0)] [(.ref p0)])) _ _ _ _ _ _
  obtain ⟨T1, X1, e1, st1⟩ := getF X0 hx hZ hown (host := "") (Or.inl (hw _ (List.mem_of_getElem? (i := 32) rfl))) Via.refl e0 P_F_p0_namespace (g := (mkF m 1 #[.val (.ref p0)] [(.ref p0)])) rfl rfl (hb hby d5_1)
  refine own_goW (fun _ k => st1 _ k) ?_
  show own_GW _ _ _ (T1.setTop (mkF m 4 #[.val (.ref p0)] [(.ref ns)])) _ _ _ _ _ _
  refine own_goW (fun _ k => XS.ifnonnullYes X1.here hx rfl (pc0 := 4) (pc' := 14) rfl (hb hby d5_4) rfl (by decide) (by decide) k) ?_
  show own_GW _ _ _ (T1.setTop (mkF m 14 #[.val (.ref p0)] [])) _ _ _ _ _ _
  have CQ2 := CR0.trans (CHr.keep KS0 all0 CR0.1)
  obtain ⟨a2, T2, h2, k12, b2, kb2, X2, e2, E2, hS2, hk2, hZ, hown, xa2, cd2, vl2, vb2, la2, lb2, CC2, Lt2, nea2, st2⟩ := ldcCH X1 hx hZ hown (hw _ (List.mem_of_getElem? (i := 29) rfl)) (own_wS hw) e1 hS0 (Nat.le_trans hk0 KS0.1) (own_EW hw) (by simp [own_EL]) CQ2.1 (vs := []) (z := (0 : Int32)) ⟨by decide, rfl⟩ (by decide) rfl (g := (mkF m 14 #[.val (.ref p0)] [])) rfl (hb hby d5_14) (n := 0) (by decide) (by decide) (by decide) (by decide)
  have CR2 := CQ2.trans CC2
  have Zs2 : n0 ≤ h2.size := Nat.le_trans Z0 E2.1
  have K2_0 : Keep h0 h2 [] := K0.ext E2
  have f3 : Exa Z h2 p0 "com/example/pacelint/pacelint/io/XmlElement" := P_E_p0.ext E2
  have f4 : Fld Z h2 p0 "com/example/pacelint/pacelint/io/XmlElement" "namespace" "Ljava/lang/String;" (.ref ns) := P_F_p0_namespace.ext E2
  have f5 : Fld Z h2 p0 "com/example/pacelint/pacelint/io/XmlElement" "localName" "Ljava/lang/String;" (.ref ln) := P_F_p0_localName.ext E2
  have KS2 : Keep h2 h2 [] := Keep.refl _ _
  refine own_goW (fun _ k => st2 _ k) ?_
  show own_GW _ _ _ (T2.setTop (mkF m 16 #[.val (.ref p0)] [(.ref a2)])) _ _ _ _ _ _
  have CQ6 := CR2.trans (CHr.keep KS2 all0 CR2.1)
  have CE6 : CHr Z own_EL s.vm s.heap T2.vm T2.heap := by rw [hh, show T2.heap = h2 from e2]; exact CQ6.trans (CHv.at X2 hZ (own_EW hw) CQ6.1)
  exact own_endWO X2 hx hlk Bd.returns rfl (Or.inr (Or.inr (Or.inr (Or.inr ⟨rfl, rfl, rfl⟩)))) (hb hby d5_16) hS2 (show _ ≤ T2.heap.size by rw [show T2.heap = h2 from e2]; exact (Nat.le_trans hk2 KS2.1)) (by decide) (by decide) CE6 (Q := (Q5b Z p0 ns ln h0 n0)) (by rw [e2]; exact ⟨a2, b2, kb2, rfl, N0, K2_0, xa2, vl2, vb2⟩)
theorem d7_0 : decode prog_56_method_2_code 0 = .ok (.aload_n 0, 1) := by decide +kernel
theorem d7_1 : decode prog_56_method_2_code 1 = .ok (.getfield 25, 3) := by decide +kernel
theorem d7_4 : decode prog_56_method_2_code 4 = .ok (.ifnonnull 10, 3) := by decide +kernel
theorem d7_7 : decode prog_56_method_2_code 7 = .ok (.aload_n 0, 1) := by decide +kernel
theorem d7_8 : decode prog_56_method_2_code 8 = .ok (.getfield 28, 3) := by decide +kernel
theorem d7_11 : decode prog_56_method_2_code 11 = .ok (.goto 16, 3) := by decide +kernel
theorem d7_14 : decode prog_56_method_2_code 14 = .ok (.aload_n 0, 1) := by decide +kernel
theorem d7_15 : decode prog_56_method_2_code 15 = .ok (.getfield 25, 3) := by decide +kernel
theorem d7_18 : decode prog_56_method_2_code 18 = .ok (.aload_n 0, 1) := by decide +kernel
theorem d7_19 : decode prog_56_method_2_code 19 = .ok (.getfield 28, 3) := by decide +kernel
theorem d7_27 : decode prog_56_method_2_code 27 = .ok (.areturn, 1) := by decide +kernel
theorem ef_7 (m : MethodId) (p0 : Addr) : entryFrame m #[(.ref p0)] 1 = mkF m 0 #[.val (.ref p0)] [] := by first | (simp [entryFrame, mkF, argsToLocals, Value.category]; done) | rfl
def Q7 (Z : State) (p0 : Addr) (ln : Addr) (h0 : Heap) (n0 : Nat) (v : Option Value) (h : Heap) (L : List Loc) : Prop := v = some (.ref ln) ∧ Fr n0 L ∧ h = h0
set_option maxRecDepth 65536 in
set_option maxHeartbeats 40000000 in
theorem rm7 (l : Launch) (Z : State) (a0 : Array Value) (hw : ∀ d ∈ tables_1, d.before a0 Z = true) (ws : List Jvm.Cond) (p0 : Addr) (ln : Addr) (h0 : Heap) (n0 : Nat) (Z0 : n0 ≤ h0.size) (P_E_p0 : Exa Z h0 p0 "com/example/pacelint/pacelint/io/XmlElement") (P_F_p0_namespace : Fld Z h0 p0 "com/example/pacelint/pacelint/io/XmlElement" "namespace" "Ljava/lang/String;" .null) (P_F_p0_localName : Fld Z h0 p0 "com/example/pacelint/pacelint/io/XmlElement" "localName" "Ljava/lang/String;" (.ref ln)) :
    MetFree l (⟨"com/example/pacelint/pacelint/io/XmlElement", "name", "()Ljava/lang/String;"⟩ : MethodName) (head1 (Jvm.Cond.code (⟨"com/example/pacelint/pacelint/io/XmlElement", "name", "()Ljava/lang/String;"⟩ : MethodName) prog_56_method_2_code 1 (some (.object "java/lang/String")) :: ws) ({ frames := 0, cells := 0, slots := 0, locals := 0 } : Room)) (fun a U => a = #[(.ref p0)] ∧ Z.Warmed39 U.vm ∧ U.heap = h0) (fun _ _ _ _ _ => True) (fun _ U o U' => ∃ v L, o = .returned v ∧ (Q7 Z p0 ln h0 n0) v U'.heap L ∧ FrameEnd U o U' L ({ frames := 0, cells := 0, slots := 0, locals := 0 } : Room).cells ({ frames := 0, cells := 0, slots := 0, locals := 0 } : Room).slots) := by
  refine MetFree.of_bodySF (plainFor_of_name pn_4) hisR ?_
  intro p e s m args below meth c s₁ Bd hml0 hP hK
  obtain ⟨rfl, hZ, hh⟩ := hP
  have hx := Bd.exec
  have hby := Bd.bytes
  have hml : c.maxLocals = 1 := hml0
  have hown : s.vm.findClass "com/example/pacelint/pacelint/io/XmlElement" = some m.cls := findClass_of_methodNamed Bd.named
  have hnm := (name_of_methodNamed Bd.named Bd.method).1
  have hlk : meth.locks = false := BodyLoose.notSynchronized Bd
  have X0 : Stand p l e ({ frames := 0, cells := 0, slots := 0, locals := 0 } : Room) s m #[(.ref p0)] below meth c s₁ [] 0 0 := Stand.of_body Bd
  have e0 : s₁.heap = h0 := by rw [← hh, Bd.state]; rfl
  have N0 := Fr.nil n0
  show own_G p.tables e below (s₁.setTop (entryFrame m #[(.ref p0)] 1)) s ({ frames := 0, cells := 0, slots := 0, locals := 0 } : Room).cells ({ frames := 0, cells := 0, slots := 0, locals := 0 } : Room).slots (Q7 Z p0 ln h0 n0)
  refine own_go (fun _ k => castTop (ef_7 m p0) k) ?_
  show own_G _ _ _ (s₁.setTop (mkF m 0 #[.val (.ref p0)] [])) _ _ _ _
  refine own_go (fun _ k => XS.aloadN X0.here hx rfl (hb hby d7_0) rfl rfl k) ?_
  show own_G _ _ _ (s₁.setTop (mkF m 1 #[.val (.ref p0)] [(.ref p0)])) _ _ _ _
  obtain ⟨T1, X1, e1, st1⟩ := getF X0 hx hZ hown (host := "") (Or.inl (hw _ (List.mem_of_getElem? (i := 32) rfl))) Via.refl e0 P_F_p0_namespace (g := (mkF m 1 #[.val (.ref p0)] [(.ref p0)])) rfl rfl (hb hby d7_1)
  refine own_go (fun _ k => st1 _ k) ?_
  show own_G _ _ _ (T1.setTop (mkF m 4 #[.val (.ref p0)] [.null])) _ _ _ _
  refine own_go (fun _ k => XS.ifnonnullNo X1.here hx rfl (hb hby d7_4) rfl k) ?_
  show own_G _ _ _ (T1.setTop (mkF m 7 #[.val (.ref p0)] [])) _ _ _ _
  refine own_go (fun _ k => XS.aloadN X1.here hx rfl (hb hby d7_7) rfl rfl k) ?_
  show own_G _ _ _ (T1.setTop (mkF m 8 #[.val (.ref p0)] [(.ref p0)])) _ _ _ _
  obtain ⟨T2, X2, e2, st2⟩ := getF X1 hx hZ hown (host := "") (Or.inl (hw _ (List.mem_of_getElem? (i := 34) rfl))) Via.refl e1 P_F_p0_localName (g := (mkF m 8 #[.val (.ref p0)] [(.ref p0)])) rfl rfl (hb hby d7_8)
  refine own_go (fun _ k => st2 _ k) ?_
  show own_G _ _ _ (T2.setTop (mkF m 11 #[.val (.ref p0)] [(.ref ln)])) _ _ _ _
  refine own_go (fun _ k => XS.goto X2.here hx rfl (pc0 := 11) (pc' := 27) rfl (hb hby d7_11) (by decide) (by decide) k) ?_
  show own_G _ _ _ (T2.setTop (mkF m 27 #[.val (.ref p0)] [(.ref ln)])) _ _ _ _
  exact own_endR X2 hx hlk Bd.returns rfl rfl rfl (hb hby d7_27) (by decide) (by decide) (Q := (Q7 Z p0 ln h0 n0)) (by rw [e2]; exact ⟨rfl, N0, rfl⟩)
theorem d6_0 : decode jdk_42_method_66_code 0 = .ok (.aload_n 0, 1) := by decide +kernel
theorem d6_1 : decode jdk_42_method_66_code 1 = .ok (.aload_n 1, 1) := by decide +kernel
theorem d6_2 : decode jdk_42_method_66_code 2 = .ok (.if_acmp .ne 5, 3) := by decide +kernel
theorem d6_5 : decode jdk_42_method_66_code 5 = .ok (.iconst 1, 1) := by decide +kernel
theorem d6_6 : decode jdk_42_method_66_code 6 = .ok (.ireturn, 1) := by decide +kernel
theorem d6_7 : decode jdk_42_method_66_code 7 = .ok (.aload_n 1, 1) := by decide +kernel
theorem d6_8 : decode jdk_42_method_66_code 8 = .ok (.instanceof 10, 3) := by decide +kernel
theorem d6_11 : decode jdk_42_method_66_code 11 = .ok (.ifCond .eq 43, 3) := by decide +kernel
theorem d6_14 : decode jdk_42_method_66_code 14 = .ok (.aload_n 1, 1) := by decide +kernel
theorem d6_15 : decode jdk_42_method_66_code 15 = .ok (.checkcast 10, 3) := by decide +kernel
theorem d6_18 : decode jdk_42_method_66_code 18 = .ok (.astore_n 2, 1) := by decide +kernel
theorem d6_19 : decode jdk_42_method_66_code 19 = .ok (.getstatic 38, 3) := by decide +kernel
theorem d6_22 : decode jdk_42_method_66_code 22 = .ok (.ifCond .eq 14, 3) := by decide +kernel
theorem d6_25 : decode jdk_42_method_66_code 25 = .ok (.aload_n 0, 1) := by decide +kernel
theorem d6_26 : decode jdk_42_method_66_code 26 = .ok (.getfield 15, 3) := by decide +kernel
theorem d6_29 : decode jdk_42_method_66_code 29 = .ok (.aload_n 2, 1) := by decide +kernel
theorem d6_30 : decode jdk_42_method_66_code 30 = .ok (.getfield 15, 3) := by decide +kernel
theorem d6_33 : decode jdk_42_method_66_code 33 = .ok (.if_icmp .ne 21, 3) := by decide +kernel
theorem d6_36 : decode jdk_42_method_66_code 36 = .ok (.aload_n 0, 1) := by decide +kernel
theorem d6_37 : decode jdk_42_method_66_code 37 = .ok (.getfield 9, 3) := by decide +kernel
theorem d6_40 : decode jdk_42_method_66_code 40 = .ok (.aload_n 2, 1) := by decide +kernel
theorem d6_41 : decode jdk_42_method_66_code 41 = .ok (.getfield 9, 3) := by decide +kernel
theorem d6_44 : decode jdk_42_method_66_code 44 = .ok (.invokestatic 541, 3) := by decide +kernel
theorem d6_47 : decode jdk_42_method_66_code 47 = .ok (.ifCond .eq 7, 3) := by decide +kernel
theorem d6_50 : decode jdk_42_method_66_code 50 = .ok (.iconst 1, 1) := by decide +kernel
theorem d6_51 : decode jdk_42_method_66_code 51 = .ok (.goto 4, 3) := by decide +kernel
theorem d6_54 : decode jdk_42_method_66_code 54 = .ok (.iconst 0, 1) := by decide +kernel
theorem d6_55 : decode jdk_42_method_66_code 55 = .ok (.ireturn, 1) := by decide +kernel
theorem ef_6 (m : MethodId) (p0 : Addr) (p0 : Addr) : entryFrame m #[(.ref p0), (.ref p0)] 3 = mkF m 0 #[.val (.ref p0), .val (.ref p0), .unset] [] := by first | (simp [entryFrame, mkF, argsToLocals, Value.category]; done) | rfl
def Q6 (Z : State) (p0 : Addr) (p0 : Addr) (h0 : Heap) (n0 : Nat) (v : Option Value) (h : Heap) (L : List Loc) : Prop := v = some (.int (1 : Int32)) ∧ Fr n0 L ∧ h = h0
set_option maxRecDepth 65536 in
set_option maxHeartbeats 40000000 in
theorem rm6 (l : Launch) (Z : State) (a0 : Array Value) (hw : ∀ d ∈ tables_1, d.before a0 Z = true) (ws : List Jvm.Cond) (p0 : Addr) (p0 : Addr) (h0 : Heap) (n0 : Nat) :
    MetFree l (⟨"java/lang/String", "equals", "(Ljava/lang/Object;)Z"⟩ : MethodName) (head1 (Jvm.Cond.code (⟨"java/lang/String", "equals", "(Ljava/lang/Object;)Z"⟩ : MethodName) jdk_42_method_66_code 3 (some .boolean) :: ws) ({ frames := 0, cells := 0, slots := 0, locals := 0 } : Room)) (fun a U => a = #[(.ref p0), (.ref p0)] ∧ Z.Warmed39 U.vm ∧ U.heap = h0) (fun _ _ _ _ _ => True) (fun _ U o U' => ∃ v L, o = .returned v ∧ (Q6 Z p0 p0 h0 n0) v U'.heap L ∧ FrameEnd U o U' L ({ frames := 0, cells := 0, slots := 0, locals := 0 } : Room).cells ({ frames := 0, cells := 0, slots := 0, locals := 0 } : Room).slots) := by
  refine MetFree.of_bodySF (plainFor_of_name pn_1) hisR ?_
  intro p e s m args below meth c s₁ Bd hml0 hP hK
  obtain ⟨rfl, hZ, hh⟩ := hP
  have hx := Bd.exec
  have hby := Bd.bytes
  have hml : c.maxLocals = 3 := hml0
  have hown : s.vm.findClass "java/lang/String" = some m.cls := findClass_of_methodNamed Bd.named
  have hnm := (name_of_methodNamed Bd.named Bd.method).1
  have hlk : meth.locks = false := BodyLoose.notSynchronized Bd
  have X0 : Stand p l e ({ frames := 0, cells := 0, slots := 0, locals := 0 } : Room) s m #[(.ref p0), (.ref p0)] below meth c s₁ [] 0 0 := Stand.of_body Bd
  have e0 : s₁.heap = h0 := by rw [← hh, Bd.state]; rfl
  have N0 := Fr.nil n0
  show own_G p.tables e below (s₁.setTop (entryFrame m #[(.ref p0), (.ref p0)] 3)) s ({ frames := 0, cells := 0, slots := 0, locals := 0 } : Room).cells ({ frames := 0, cells := 0, slots := 0, locals := 0 } : Room).slots (Q6 Z p0 p0 h0 n0)
  refine own_go (fun _ k => castTop (ef_6 m p0 p0) k) ?_
  show own_G _ _ _ (s₁.setTop (mkF m 0 #[.val (.ref p0), .val (.ref p0), .unset] [])) _ _ _ _
  refine own_go (fun _ k => XS.aloadN X0.here hx rfl (hb hby d6_0) rfl rfl k) ?_
  show own_G _ _ _ (s₁.setTop (mkF m 1 #[.val (.ref p0), .val (.ref p0), .unset] [(.ref p0)])) _ _ _ _
  refine own_go (fun _ k => XS.aloadN X0.here hx rfl (hb hby d6_1) rfl rfl k) ?_
  show own_G _ _ _ (s₁.setTop (mkF m 2 #[.val (.ref p0), .val (.ref p0), .unset] [(.ref p0), (.ref p0)])) _ _ _ _
  refine own_go (fun _ k => Jvm.RoadKit.acmp (g := (mkF m 2 #[.val (.ref p0), .val (.ref p0), .unset] [(.ref p0), (.ref p0)])) X0 hx rfl rfl rfl (pc0 := 2) (pc' := 5) (same := true) rfl (hb hby d6_2) rfl (decide_eq_true rfl) (by decide) (by decide) k) ?_
  show own_G _ _ _ (s₁.setTop (mkF m 5 #[.val (.ref p0), .val (.ref p0), .unset] [])) _ _ _ _
  refine own_go (fun _ k => XS.iconst X0.here hx rfl (hb hby d6_5) k) ?_
  show own_G _ _ _ (s₁.setTop (mkF m 6 #[.val (.ref p0), .val (.ref p0), .unset] [(.int (1 : Int32))])) _ _ _ _
  exact own_endN X0 hx hlk (t := .boolean) Bd.returns (by simp) (hb hby d6_6) (by decide) (by decide) (Q := (Q6 Z p0 p0 h0 n0)) (by rw [e0]; exact ⟨rfl, N0, rfl⟩)
theorem d13_0 : decode jdk_42_method_55_code 0 = .ok (.aload_n 0, 1) := by decide +kernel
theorem d13_1 : decode jdk_42_method_55_code 1 = .ok (.getfield 9, 3) := by decide +kernel
theorem d13_4 : decode jdk_42_method_55_code 4 = .ok (.arraylength, 1) := by decide +kernel
theorem d13_5 : decode jdk_42_method_55_code 5 = .ok (.ifCond .ne 7, 3) := by decide +kernel
theorem d13_8 : decode jdk_42_method_55_code 8 = .ok (.iconst 1, 1) := by decide +kernel
theorem d13_9 : decode jdk_42_method_55_code 9 = .ok (.goto 4, 3) := by decide +kernel
theorem d13_12 : decode jdk_42_method_55_code 12 = .ok (.iconst 0, 1) := by decide +kernel
theorem d13_13 : decode jdk_42_method_55_code 13 = .ok (.ireturn, 1) := by decide +kernel
theorem ef_13 (m : MethodId) (p0 : Addr) : entryFrame m #[(.ref p0)] 1 = mkF m 0 #[.val (.ref p0)] [] := by first | (simp [entryFrame, mkF, argsToLocals, Value.category]; done) | rfl
def Q13 (Z : State) (p0 : Addr) (t : Addr) (kt : ClassId) (h0 : Heap) (n0 : Nat) (v : Option Value) (h : Heap) (L : List Loc) : Prop := v = some (.int (1 : Int32)) ∧ Fr n0 L ∧ h = h0
set_option maxRecDepth 65536 in
set_option maxHeartbeats 40000000 in
theorem rm13 (l : Launch) (Z : State) (a0 : Array Value) (hw : ∀ d ∈ tables_1, d.before a0 Z = true) (ws : List Jvm.Cond) (p0 : Addr) (t : Addr) (kt : ClassId) (h0 : Heap) (n0 : Nat) (Z0 : n0 ≤ h0.size) (P_F_p0_value : Fld Z h0 p0 "java/lang/String" "value" "[B" (.ref t)) (P_V_t : Arv Z h0 t kt .byte (0 : Int32) [] (.int (0 : Int32))) :
    MetFree l (⟨"java/lang/String", "isEmpty", "()Z"⟩ : MethodName) (head1 (Jvm.Cond.code (⟨"java/lang/String", "isEmpty", "()Z"⟩ : MethodName) jdk_42_method_55_code 1 (some .boolean) :: ws) ({ frames := 0, cells := 0, slots := 0, locals := 0 } : Room)) (fun a U => a = #[(.ref p0)] ∧ Z.Warmed39 U.vm ∧ U.heap = h0) (fun _ _ _ _ _ => True) (fun _ U o U' => ∃ v L, o = .returned v ∧ (Q13 Z p0 t kt h0 n0) v U'.heap L ∧ FrameEnd U o U' L ({ frames := 0, cells := 0, slots := 0, locals := 0 } : Room).cells ({ frames := 0, cells := 0, slots := 0, locals := 0 } : Room).slots) := by
  refine MetFree.of_bodySF (plainFor_of_name pn_1) hisR ?_
  intro p e s m args below meth c s₁ Bd hml0 hP hK
  obtain ⟨rfl, hZ, hh⟩ := hP
  have hx := Bd.exec
  have hby := Bd.bytes
  have hml : c.maxLocals = 1 := hml0
  have hown : s.vm.findClass "java/lang/String" = some m.cls := findClass_of_methodNamed Bd.named
  have hnm := (name_of_methodNamed Bd.named Bd.method).1
  have hlk : meth.locks = false := BodyLoose.notSynchronized Bd
  have X0 : Stand p l e ({ frames := 0, cells := 0, slots := 0, locals := 0 } : Room) s m #[(.ref p0)] below meth c s₁ [] 0 0 := Stand.of_body Bd
  have e0 : s₁.heap = h0 := by rw [← hh, Bd.state]; rfl
  have N0 := Fr.nil n0
  show own_G p.tables e below (s₁.setTop (entryFrame m #[(.ref p0)] 1)) s ({ frames := 0, cells := 0, slots := 0, locals := 0 } : Room).cells ({ frames := 0, cells := 0, slots := 0, locals := 0 } : Room).slots (Q13 Z p0 t kt h0 n0)
  refine own_go (fun _ k => castTop (ef_13 m p0) k) ?_
  show own_G _ _ _ (s₁.setTop (mkF m 0 #[.val (.ref p0)] [])) _ _ _ _
  refine own_go (fun _ k => XS.aloadN X0.here hx rfl (hb hby d13_0) rfl rfl k) ?_
  show own_G _ _ _ (s₁.setTop (mkF m 1 #[.val (.ref p0)] [(.ref p0)])) _ _ _ _
  obtain ⟨T1, X1, e1, st1⟩ := getF X0 hx hZ hown (host := "") (Or.inl (hw _ (List.mem_of_getElem? (i := 77) rfl))) Via.refl e0 P_F_p0_value (g := (mkF m 1 #[.val (.ref p0)] [(.ref p0)])) rfl rfl (hb hby d13_1)
  refine own_go (fun _ k => st1 _ k) ?_
  show own_G _ _ _ (T1.setTop (mkF m 4 #[.val (.ref p0)] [(.ref t)])) _ _ _ _
  obtain ⟨cl2, Ar2, -, S2, Ng2, -, -⟩ := id P_V_t
  refine own_go (fun _ k => X1.arraylength hx (by rw [e1]; exact Ar2.1) (State.isArrayOf_alike hZ.alike Ar2.2.1) (g := (mkF m 4 #[.val (.ref p0)] [(.ref t)])) rfl rfl (hb hby d13_4) _ k) ?_
  rw [len_of S2 Ng2]
  show own_G _ _ _ (T1.setTop (mkF m 5 #[.val (.ref p0)] [(.int (0 : Int32))])) _ _ _ _
  have hc3 : (0 : Int32) = (0 : Int32) := (by decide)
  refine own_go (fun _ k => XS.ifNo X1.here hx rfl (hb hby d13_5) rfl ((if0 _ _).trans (teq hc3).2) k) ?_
  show own_G _ _ _ (T1.setTop (mkF m 8 #[.val (.ref p0)] [])) _ _ _ _
  refine own_go (fun _ k => XS.iconst X1.here hx rfl (hb hby d13_8) k) ?_
  show own_G _ _ _ (T1.setTop (mkF m 9 #[.val (.ref p0)] [(.int (1 : Int32))])) _ _ _ _
  refine own_go (fun _ k => XS.goto X1.here hx rfl (pc0 := 9) (pc' := 13) rfl (hb hby d13_9) (by decide) (by decide) k) ?_
  show own_G _ _ _ (T1.setTop (mkF m 13 #[.val (.ref p0)] [(.int (1 : Int32))])) _ _ _ _
  exact own_endN X1 hx hlk (t := .boolean) Bd.returns (by simp) (hb hby d13_13) (by decide) (by decide) (Q := (Q13 Z p0 t kt h0 n0)) (by rw [e1]; exact ⟨rfl, N0, rfl⟩)
theorem pd_6 : parseMethodDescriptor "(III)Ljava/lang/String;" = some ⟨[.int, .int, .int], some (.object "java/lang/String")⟩ := by decide +kernel
theorem pd_7 : parseMethodDescriptor "(Ljava/lang/String;Ljava/lang/String;Lcom/example/pacelint/pacelint/model/Location;Ljava/util/Map;)V" = some ⟨[(.object "java/lang/String"), (.object "java/lang/String"), (.object "com/example/pacelint/pacelint/model/Location"), (.object "java/util/Map")], none⟩ := by decide +kernel
theorem pd_8 : parseMethodDescriptor "()Ljava/lang/String;" = some ⟨[], some (.object "java/lang/String")⟩ := by decide +kernel
theorem pd_9 : parseMethodDescriptor "(Ljava/lang/Object;)Z" = some ⟨[(.object "java/lang/Object")], some .boolean⟩ := by decide +kernel
theorem pd_10 : parseMethodDescriptor "()Z" = some ⟨[], some .boolean⟩ := by decide +kernel
theorem ef_0 (m : MethodId) (p0 : Int32) (p1 : Int32) (p2 : Int32) (p3 : Int32) (p4 : Int32) : entryFrame m #[(.int p0), (.int p1), (.int p2), (.int p3), (.int p4)] maxLocals = mkF m 0 #[.val (.int p0), .val (.int p1), .val (.int p2), .val (.int p3), .val (.int p4), .unset, .unset, .unset, .unset, .unset] [] := by first | (simp [entryFrame, mkF, argsToLocals, Value.category, maxLocals]; done) | rfl
def Q0 (Z : State) (p0 : Int32) (p1 : Int32) (p2 : Int32) (p3 : Int32) (p4 : Int32) (zc : Int32) (el : Addr) (h0 : Heap) (n0 : Nat) (v : Option Value) (h : Heap) (L : List Loc) : Prop := v = some (.int (1 : Int32)) ∧ Fr n0 L ∧ Keep h0 h []
set_option maxRecDepth 65536 in
set_option maxHeartbeats 40000000 in
theorem rm0 (l : Launch) (Z : State) (a0 : Array Value) (hw : ∀ d ∈ tables_1, d.before a0 Z = true) (ws : List Jvm.Cond) (p0 : Int32) (p1 : Int32) (p2 : Int32) (p3 : Int32) (p4 : Int32) (zc : Int32) (el : Addr) (h0 : Heap) (n0 : Nat) (Z0 : n0 ≤ h0.size) (P_Old : Old Z n0 h0) (P_ZS_java_lang_String_COMPACT_STRINGS : Sta Z Z.heap "java/lang/String" "COMPACT_STRINGS" "Z" (.int zc)) (hcs : ¬ zc = 0) (P_ZS_java_util_ImmutableCollections_EMPTY_LIST : Sta Z Z.heap "java/util/ImmutableCollections" "EMPTY_LIST" "Ljava/util/ImmutableCollections$ListN;" (.ref el)) :
    MetFree l x (head1 (Jvm.Cond.code x code maxLocals ret :: ws) room_1) (fun a U => a = #[(.int p0), (.int p1), (.int p2), (.int p3), (.int p4)] ∧ Z.Warmed39 U.vm ∧ U.heap = h0 ∧ CHv Z own_EL U.vm h0) (fun _ _ _ _ _ => True) (fun _ U o U' => ∃ v L, o = .returned v ∧ (Q0 Z p0 p1 p2 p3 p4 zc el h0 n0) v U'.heap L ∧ CHr Z own_EL U.vm U.heap U'.vm U'.heap ∧ ReturnedEndW U o U' L room_1.cells room_1.slots) := by
  refine MetFree.of_bodySF (plainFor_of_name pn_2) hisR ?_
  intro p e s m args below meth c s₁ Bd hml0 hP hK
  obtain ⟨rfl, hZ, hh, H0⟩ := hP
  have hx := Bd.exec
  have hby := Bd.bytes
  have hml : c.maxLocals = 10 := hml0
  have hown : s.vm.findClass "com/example/pacelint/pacelint/io/XmlElementAutosarNamePinLaw" = some m.cls := findClass_of_methodNamed Bd.named
  have hnm := (name_of_methodNamed Bd.named Bd.method).1
  have hlk : meth.locks = false := BodyLoose.notSynchronized Bd
  have X0 : Stand p l e room_1 (s.setVm s.vm) m #[(.int p0), (.int p1), (.int p2), (.int p3), (.int p4)] below meth c s₁ [] 0 0 := Stand.of_body Bd
  have e0 : s₁.heap = h0 := by rw [← hh, Bd.state]; rfl
  have N0 := Fr.nil n0
  have hS0 := (State.WarmedH.refl s).since s.heap.size
  have hk0 : s.heap.size ≤ h0.size := by rw [hh]; exact Nat.le_refl _
  have CR0 : CHr Z own_EL s.vm h0 s.vm h0 := CHr.refl H0
  have KS0 : Keep h0 h0 [] := Keep.refl _ _
  have K0 : Keep h0 h0 [] := Keep.refl h0 []
  show own_GW p.tables e below (s₁.setTop (entryFrame m #[(.int p0), (.int p1), (.int p2), (.int p3), (.int p4)] maxLocals)) s room_1.cells room_1.slots Z own_EL (Q0 Z p0 p1 p2 p3 p4 zc el h0 n0)
  refine own_goW (fun _ k => castTop (ef_0 m p0 p1 p2 p3 p4) k) ?_
  show own_GW _ _ _ (s₁.setTop (mkF m 0 #[.val (.int p0), .val (.int p1), .val (.int p2), .val (.int p3), .val (.int p4), .unset, .unset, .unset, .unset, .unset] [])) _ _ _ _ _ _
  refine own_goW (fun _ k => XS.iloadN X0.here hx rfl (hb hby at_0) rfl k) ?_
  show own_GW _ _ _ (s₁.setTop (mkF m 1 #[.val (.int p0), .val (.int p1), .val (.int p2), .val (.int p3), .val (.int p4), .unset, .unset, .unset, .unset, .unset] [(.int p0)])) _ _ _ _ _ _
  refine own_goW (fun _ k => XS.iconst X0.here hx rfl (hb hby at_1) k) ?_
  show own_GW _ _ _ (s₁.setTop (mkF m 2 #[.val (.int p0), .val (.int p1), .val (.int p2), .val (.int p3), .val (.int p4), .unset, .unset, .unset, .unset, .unset] [(.int (3 : Int32)), (.int p0)])) _ _ _ _ _ _
  refine own_goW (fun _ k => XS.iand X0.here hx rfl (hb hby at_2) rfl k) ?_
  show own_GW _ _ _ (s₁.setTop (mkF m 3 #[.val (.int p0), .val (.int p1), .val (.int p2), .val (.int p3), .val (.int p4), .unset, .unset, .unset, .unset, .unset] [(.int (p0 &&& (3 : Int32)))])) _ _ _ _ _ _
  refine own_goW (fun _ k => XS.istore X0.here hx rfl (hb hby at_3) rfl (l' := #[.val (.int p0), .val (.int p1), .val (.int p2), .val (.int p3), .val (.int p4), .val (.int (p0 &&& (3 : Int32))), .unset, .unset, .unset, .unset]) rfl k) ?_
  show own_GW _ _ _ (s₁.setTop (mkF m 5 #[.val (.int p0), .val (.int p1), .val (.int p2), .val (.int p3), .val (.int p4), .val (.int (p0 &&& (3 : Int32))), .unset, .unset, .unset, .unset] [])) _ _ _ _ _ _
  refine own_goW (fun _ k => XS.iload X0.here hx rfl (hb hby at_5) rfl k) ?_
  show own_GW _ _ _ (s₁.setTop (mkF m 7 #[.val (.int p0), .val (.int p1), .val (.int p2), .val (.int p3), .val (.int p4), .val (.int (p0 &&& (3 : Int32))), .unset, .unset, .unset, .unset] [(.int (p0 &&& (3 : Int32)))])) _ _ _ _ _ _
  by_cases hc1 : (p0 &&& (3 : Int32)) = (0 : Int32)
  · refine own_goW (fun _ k => XS.ifNo X0.here hx rfl (hb hby at_7) rfl ((if0 _ _).trans (teq hc1).2) k) ?_
    show own_GW _ _ _ (s₁.setTop (mkF m 10 #[.val (.int p0), .val (.int p1), .val (.int p2), .val (.int p3), .val (.int p4), .val (.int (p0 &&& (3 : Int32))), .unset, .unset, .unset, .unset] [])) _ _ _ _ _ _
    refine own_goW (fun _ k => XS.aconstNull X0.here hx rfl (hb hby at_10) k) ?_
    show own_GW _ _ _ (s₁.setTop (mkF m 11 #[.val (.int p0), .val (.int p1), .val (.int p2), .val (.int p3), .val (.int p4), .val (.int (p0 &&& (3 : Int32))), .unset, .unset, .unset, .unset] [.null])) _ _ _ _ _ _
    refine own_goW (fun _ k => XS.goto X0.here hx rfl (pc0 := 11) (pc' := 23) rfl (hb hby at_11) (by decide) (by decide) k) ?_
    show own_GW _ _ _ (s₁.setTop (mkF m 23 #[.val (.int p0), .val (.int p1), .val (.int p2), .val (.int p3), .val (.int p4), .val (.int (p0 &&& (3 : Int32))), .unset, .unset, .unset, .unset] [.null])) _ _ _ _ _ _
    refine own_goW (fun _ k => XS.astore X0.here hx rfl (hb hby at_23) rfl rfl (l' := #[.val (.int p0), .val (.int p1), .val (.int p2), .val (.int p3), .val (.int p4), .val (.int (p0 &&& (3 : Int32))), .val .null, .unset, .unset, .unset]) rfl k) ?_
    show own_GW _ _ _ (s₁.setTop (mkF m 25 #[.val (.int p0), .val (.int p1), .val (.int p2), .val (.int p3), .val (.int p4), .val (.int (p0 &&& (3 : Int32))), .val .null, .unset, .unset, .unset] [])) _ _ _ _ _ _
    refine own_goW (fun _ k => XS.iloadN X0.here hx rfl (hb hby at_25) rfl k) ?_
    show own_GW _ _ _ (s₁.setTop (mkF m 26 #[.val (.int p0), .val (.int p1), .val (.int p2), .val (.int p3), .val (.int p4), .val (.int (p0 &&& (3 : Int32))), .val .null, .unset, .unset, .unset] [(.int p0)])) _ _ _ _ _ _
    refine own_goW (fun _ k => XS.iconst X0.here hx rfl (hb hby at_26) k) ?_
    show own_GW _ _ _ (s₁.setTop (mkF m 27 #[.val (.int p0), .val (.int p1), .val (.int p2), .val (.int p3), .val (.int p4), .val (.int (p0 &&& (3 : Int32))), .val .null, .unset, .unset, .unset] [(.int (2 : Int32)), (.int p0)])) _ _ _ _ _ _
    refine own_goW (fun _ k => XS.ishr X0.here hx rfl (hb hby at_27) rfl k) ?_
    show own_GW _ _ _ (s₁.setTop (mkF m 28 #[.val (.int p0), .val (.int p1), .val (.int p2), .val (.int p3), .val (.int p4), .val (.int (p0 &&& (3 : Int32))), .val .null, .unset, .unset, .unset] [(.int (p0 >>> ((2 : Int32) &&& 31)))])) _ _ _ _ _ _
    refine own_goW (fun _ k => XS.iloadN X0.here hx rfl (hb hby at_28) rfl k) ?_
    show own_GW _ _ _ (s₁.setTop (mkF m 29 #[.val (.int p0), .val (.int p1), .val (.int p2), .val (.int p3), .val (.int p4), .val (.int (p0 &&& (3 : Int32))), .val .null, .unset, .unset, .unset] [(.int p3), (.int (p0 >>> ((2 : Int32) &&& 31)))])) _ _ _ _ _ _
    refine own_goW (fun _ k => XS.iload X0.here hx rfl (hb hby at_29) rfl k) ?_
    show own_GW _ _ _ (s₁.setTop (mkF m 31 #[.val (.int p0), .val (.int p1), .val (.int p2), .val (.int p3), .val (.int p4), .val (.int (p0 &&& (3 : Int32))), .val .null, .unset, .unset, .unset] [(.int p4), (.int p3), (.int (p0 >>> ((2 : Int32) &&& 31)))])) _ _ _ _ _ _
    have CQ2 := CR0.trans (CHr.keep KS0 all0 CR0.1)
    obtain ⟨_, _, ⟨T2, L2, k2, n2⟩, -, X2, hS'2, gh2, ⟨Lc2, hQ2, l2, y2, z2, CC2⟩, st2⟩ := callSS X0 hx (y := (⟨"com/example/pacelint/pacelint/io/XmlElementAutosarNamePinLaw", "draw", "(III)Ljava/lang/String;"⟩ : MethodName)) hown (mvT hZ (hw _ (List.mem_of_getElem? (i := 0) rfl))) (mvT hZ (hw _ (List.mem_of_getElem? (i := 1) rfl))) (mvT hZ (hw _ (List.mem_of_getElem? (i := 2) rfl))) (mvT hZ (hw _ (List.mem_of_getElem? (i := 3) rfl))) (by decide) (backOfSH (W := 0) (rm1 l Z a0 hw [] (p0 >>> ((2 : Int32) &&& 31)) p3 p4 zc h0 n0 Z0 P_Old P_ZS_java_lang_String_COMPACT_STRINGS (by assumption)) hZ (hw _ (List.mem_of_getElem? (i := 3) rfl)) (hw _ (List.mem_of_getElem? (i := 2) rfl)) (by decide) (by decide) (own_EW hw) CQ2.1) (g := (mkF m 31 #[.val (.int p0), .val (.int p1), .val (.int p2), .val (.int p3), .val (.int p4), .val (.int (p0 &&& (3 : Int32))), .val .null, .unset, .unset, .unset] [(.int p4), (.int p3), (.int (p0 >>> ((2 : Int32) &&& 31)))])) rfl (by rw [hml]; rfl) (argsL := [(.int (p0 >>> ((2 : Int32) &&& 31))), (.int p3), (.int p4)]) (rest := []) (lenOf pd_6 rfl) rfl (by show 2 * 0 + _ ≤ _; exact Nat.le_of_eq rfl) (hb hby at_31) (fun _ _ => ⟨rfl, e0, (by decide : 0 + 3 ≤ _), (by decide : 0 + 8 ≤ _)⟩)
    dsimp only [Pt.U, Pt.locs, Pt.cells, Pt.slots] at X2 l2 y2 z2 st2 hQ2 hS'2 gh2 CC2
    subst l2 y2 z2
    have hk2 : h0.size ≤ T2.heap.size := by rw [← show s₁.heap = h0 from e0]; exact gh2
    obtain ⟨X2, hS2, hZ, hown⟩ := rebS hS0 (Nat.le_trans hk0 KS0.1) X2 hS'2 hk2 hZ hown
    have CR2 := CQ2.trans CC2
    obtain ⟨b2, rfl, Nq2, Kq2, r2_0⟩ := hQ2
    have N2 := Fr.app N0 Nq2
    have f3 : Old Z n0 T2.heap := P_Old.keep Kq2 all0
    have Zs2 : n0 ≤ T2.heap.size := Nat.le_trans Z0 Kq2.1
    have K2_0 : Keep h0 T2.heap [] := K0.trans Kq2 all0
    have KS2 : Keep T2.heap T2.heap [] := Keep.refl _ _
    refine own_trW st2 ?_
    show own_GW _ _ _ (T2.setTop (mkF m 34 #[.val (.int p0), .val (.int p1), .val (.int p2), .val (.int p3), .val (.int p4), .val (.int (p0 &&& (3 : Int32))), .val .null, .unset, .unset, .unset] [(.ref b2)])) _ _ _ _ _ _
    refine own_goW (fun _ k => XS.astore X2.here hx rfl (hb hby at_34) rfl rfl (l' := #[.val (.int p0), .val (.int p1), .val (.int p2), .val (.int p3), .val (.int p4), .val (.int (p0 &&& (3 : Int32))), .val .null, .val (.ref b2), .unset, .unset]) rfl k) ?_
    show own_GW _ _ _ (T2.setTop (mkF m 36 #[.val (.int p0), .val (.int p1), .val (.int p2), .val (.int p3), .val (.int p4), .val (.int (p0 &&& (3 : Int32))), .val .null, .val (.ref b2), .unset, .unset] [])) _ _ _ _ _ _
    obtain ⟨T4, h4, X4, e4, E4, A4, D4, -, st4⟩ := newO X2 hx hZ hown (hw _ (List.mem_of_getElem? (i := 12) rfl)) (hw _ (List.mem_of_getElem? (i := 13) rfl)) (hw _ (List.mem_of_getElem? (i := 14) rfl)) rfl (g := (mkF m 36 #[.val (.int p0), .val (.int p1), .val (.int p2), .val (.int p3), .val (.int p4), .val (.int (p0 &&& (3 : Int32))), .val .null, .val (.ref b2), .unset, .unset] [])) rfl (hb hby at_36) (by decide) (by decide)
    obtain ⟨b4, g4⟩ : ∃ z, z = T2.heap.size := ⟨_, rfl⟩
    rw [← g4] at A4 D4 st4
    have ne5 : b2 ≠ b4 := Nat.ne_of_lt (Nat.lt_of_lt_of_le r2_0.lt (Nat.le_of_eq g4.symm))
    have gg4 : n0 ≤ b4 := Nat.le_trans Zs2 (Nat.le_of_eq g4.symm)
    have sz4_0 : h0.size ≤ b4 := Nat.le_trans K2_0.1 (Nat.le_of_eq g4.symm)
    have sz4_1 : T2.heap.size ≤ b4 := Nat.le_trans KS2.1 (Nat.le_of_eq g4.symm)
    have Zs4 : n0 ≤ h4.size := Nat.le_trans Zs2 E4.1
    have K4_0 : Keep h0 h4 [] := K2_0.ext E4
    have K4_1 : Keep T2.heap h4 [] := KS2.ext E4
    have f6 : Old Z n0 h4 := f3.ext E4
    have f7 : Exa Z h4 b2 "java/lang/String" := r2_0.ext E4
    have f8 : Exa Z h4 b4 "com/example/pacelint/pacelint/io/XmlElement" := A4
    have f9 : Fld Z h4 b4 "com/example/pacelint/pacelint/io/XmlElement" "children" "Ljava/util/List;" .null := D4 (Or.inl (hw _ (List.mem_of_getElem? (i := 28) rfl))) (ty := (.object "java/util/List")) (by decide)
    have f10 : Fld Z h4 b4 "com/example/pacelint/pacelint/io/XmlElement" "text" "Ljava/lang/String;" .null := D4 (Or.inl (hw _ (List.mem_of_getElem? (i := 31) rfl))) (ty := (.object "java/lang/String")) (by decide)
    have f11 : Fld Z h4 b4 "com/example/pacelint/pacelint/io/XmlElement" "namespace" "Ljava/lang/String;" .null := D4 (Or.inr (hw _ (List.mem_of_getElem? (i := 33) rfl))) (ty := (.object "java/lang/String")) (by decide)
    have f12 : Fld Z h4 b4 "com/example/pacelint/pacelint/io/XmlElement" "localName" "Ljava/lang/String;" .null := D4 (Or.inr (hw _ (List.mem_of_getElem? (i := 35) rfl))) (ty := (.object "java/lang/String")) (by decide)
    have f13 : Fld Z h4 b4 "com/example/pacelint/pacelint/io/XmlElement" "location" "Lcom/example/pacelint/pacelint/model/Location;" .null := D4 (Or.inr (hw _ (List.mem_of_getElem? (i := 37) rfl))) (ty := (.object "com/example/pacelint/pacelint/model/Location")) (by decide)
    have f14 : Fld Z h4 b4 "com/example/pacelint/pacelint/io/XmlElement" "attributes" "Ljava/util/Map;" .null := D4 (Or.inr (hw _ (List.mem_of_getElem? (i := 39) rfl))) (ty := (.object "java/util/Map")) (by decide)
    refine own_goW (fun _ k => st4 _ k) ?_
    show own_GW _ _ _ (T4.setTop (mkF m 39 #[.val (.int p0), .val (.int p1), .val (.int p2), .val (.int p3), .val (.int p4), .val (.int (p0 &&& (3 : Int32))), .val .null, .val (.ref b2), .unset, .unset] [(.ref b4)])) _ _ _ _ _ _
    refine own_goW (fun _ k => XS.dup X4.here hx rfl (hb hby at_39) rfl rfl k) ?_
    show own_GW _ _ _ (T4.setTop (mkF m 40 #[.val (.int p0), .val (.int p1), .val (.int p2), .val (.int p3), .val (.int p4), .val (.int (p0 &&& (3 : Int32))), .val .null, .val (.ref b2), .unset, .unset] [(.ref b4), (.ref b4)])) _ _ _ _ _ _
    refine own_goW (fun _ k => XS.aload X4.here hx rfl (hb hby at_40) rfl rfl k) ?_
    show own_GW _ _ _ (T4.setTop (mkF m 42 #[.val (.int p0), .val (.int p1), .val (.int p2), .val (.int p3), .val (.int p4), .val (.int (p0 &&& (3 : Int32))), .val .null, .val (.ref b2), .unset, .unset] [.null, (.ref b4), (.ref b4)])) _ _ _ _ _ _
    refine own_goW (fun _ k => XS.aload X4.here hx rfl (hb hby at_42) rfl rfl k) ?_
    show own_GW _ _ _ (T4.setTop (mkF m 44 #[.val (.int p0), .val (.int p1), .val (.int p2), .val (.int p3), .val (.int p4), .val (.int (p0 &&& (3 : Int32))), .val .null, .val (.ref b2), .unset, .unset] [(.ref b2), .null, (.ref b4), (.ref b4)])) _ _ _ _ _ _
    refine own_goW (fun _ k => XS.aconstNull X4.here hx rfl (hb hby at_44) k) ?_
    show own_GW _ _ _ (T4.setTop (mkF m 45 #[.val (.int p0), .val (.int p1), .val (.int p2), .val (.int p3), .val (.int p4), .val (.int (p0 &&& (3 : Int32))), .val .null, .val (.ref b2), .unset, .unset] [.null, (.ref b2), .null, (.ref b4), (.ref b4)])) _ _ _ _ _ _
    refine own_goW (fun _ k => XS.aconstNull X4.here hx rfl (hb hby at_45) k) ?_
    show own_GW _ _ _ (T4.setTop (mkF m 46 #[.val (.int p0), .val (.int p1), .val (.int p2), .val (.int p3), .val (.int p4), .val (.int (p0 &&& (3 : Int32))), .val .null, .val (.ref b2), .unset, .unset] [.null, .null, (.ref b2), .null, (.ref b4), (.ref b4)])) _ _ _ _ _ _
    have CQ15 := CR2.trans (CHr.keep K4_1 all0 CR2.1)
    obtain ⟨_, _, ⟨T15, L15, k15, n15⟩, -, X15, hS'15, gh15, ⟨Lc15, hQ15, l15, y15, z15, CC15⟩, st15⟩ := X4.specialBackS hx (y := (⟨"com/example/pacelint/pacelint/io/XmlElement", "<init>", "(Ljava/lang/String;Ljava/lang/String;Lcom/example/pacelint/pacelint/model/Location;Ljava/util/Map;)V"⟩ : MethodName)) rfl hown (mvT hZ (hw _ (List.mem_of_getElem? (i := 15) rfl))) (mvT hZ (hw _ (List.mem_of_getElem? (i := 16) rfl))) (mvT hZ (hw _ (List.mem_of_getElem? (i := 17) rfl))) (by decide) (backOfSH (W := 1) (rm2a l Z a0 hw [] b4 b2 el h4 n0 Zs4 f6 P_ZS_java_util_ImmutableCollections_EMPTY_LIST f8 f9 f10 f11 f12 f13 f14 gg4) hZ (hw _ (List.mem_of_getElem? (i := 17) rfl)) (hw _ (List.mem_of_getElem? (i := 14) rfl)) (by decide) (by decide) (own_EW hw) CQ15.1) (g := (mkF m 46 #[.val (.int p0), .val (.int p1), .val (.int p2), .val (.int p3), .val (.int p4), .val (.int (p0 &&& (3 : Int32))), .val .null, .val (.ref b2), .unset, .unset] [.null, .null, (.ref b2), .null, (.ref b4), (.ref b4)])) rfl (by rw [hml]; rfl) (Steps.refl _) (a := b4) (argsL := [.null, (.ref b2), .null, .null]) (rest := [(.ref b4)]) (lenOf pd_7 rfl) rfl (by show 2 * 0 + _ ≤ _; exact Nat.le_of_eq rfl) (hb hby at_46) (fun _ _ => ⟨rfl, e4, (by decide : 4 + 2 ≤ _), (by decide : 15 + 4 ≤ _)⟩)
    dsimp only [Pt.U, Pt.locs, Pt.cells, Pt.slots] at X15 l15 y15 z15 st15 hQ15 hS'15 gh15 CC15
    subst l15 y15 z15
    have hk15 : h4.size ≤ T15.heap.size := by rw [← show T4.heap = h4 from e4]; exact gh15
    obtain ⟨X15, hS15, hZ, hown⟩ := rebS hS2 (Nat.le_trans (Nat.le_refl _) K4_1.1) X15 hS'15 hk15 hZ hown
    have CR15 := CQ15.trans CC15
    obtain ⟨rfl, Nq15, Kq15, r15_0, r15_1, r15_2⟩ := hQ15
    have N15 := Fr.app N2 Nq15
    have f16 : Old Z n0 T15.heap := f6.keep Kq15 (allS gg4 all0)
    have f17 : Exa Z T15.heap b2 "java/lang/String" := f7.keep Kq15
    have f18 : Exa Z T15.heap b4 "com/example/pacelint/pacelint/io/XmlElement" := f8.keep Kq15
    have Zs15 : n0 ≤ T15.heap.size := Nat.le_trans Zs4 Kq15.1
    have K15_0 : Keep h0 T15.heap [] := K4_0.trans Kq15 (allS (Or.inr sz4_0) all0)
    have KS15 : Keep T15.heap T15.heap [] := Keep.refl _ _
    refine own_trW st15 ?_
    show own_GW _ _ _ (T15.setTop (mkF m 49 #[.val (.int p0), .val (.int p1), .val (.int p2), .val (.int p3), .val (.int p4), .val (.int (p0 &&& (3 : Int32))), .val .null, .val (.ref b2), .unset, .unset] [(.ref b4)])) _ _ _ _ _ _
    refine own_goW (fun _ k => XS.astore X15.here hx rfl (hb hby at_49) rfl rfl (l' := #[.val (.int p0), .val (.int p1), .val (.int p2), .val (.int p3), .val (.int p4), .val (.int (p0 &&& (3 : Int32))), .val .null, .val (.ref b2), .val (.ref b4), .unset]) rfl k) ?_
    show own_GW _ _ _ (T15.setTop (mkF m 51 #[.val (.int p0), .val (.int p1), .val (.int p2), .val (.int p3), .val (.int p4), .val (.int (p0 &&& (3 : Int32))), .val .null, .val (.ref b2), .val (.ref b4), .unset] [])) _ _ _ _ _ _
    refine own_goW (fun _ k => XS.aload X15.here hx rfl (hb hby at_51) rfl rfl k) ?_
    show own_GW _ _ _ (T15.setTop (mkF m 53 #[.val (.int p0), .val (.int p1), .val (.int p2), .val (.int p3), .val (.int p4), .val (.int (p0 &&& (3 : Int32))), .val .null, .val (.ref b2), .val (.ref b4), .unset] [(.ref b4)])) _ _ _ _ _ _
    obtain ⟨cq19, kq19, q19a, q19b, q19c⟩ := isOf hZ rfl r15_0
    obtain ⟨_, _, ⟨T19, L19, k19, n19⟩, -, X19, ⟨Lc19, hQ19, l19, y19, z19⟩, st19⟩ := X15.virtualBack hx (y := (⟨"com/example/pacelint/pacelint/io/XmlElement", "autosarName", "()Ljava/lang/String;"⟩ : MethodName)) (z := (⟨"com/example/pacelint/pacelint/io/XmlElement", "autosarName", "()Ljava/lang/String;"⟩ : MethodName)) hown (mvT hZ (hw _ (List.mem_of_getElem? (i := 40) rfl))) (mvT hZ (hw _ (List.mem_of_getElem? (i := 41) rfl))) (notFace_of_selects (args := #[]) (mvT hZ (hw _ (List.mem_of_getElem? (i := 43) rfl)))) (mvT hZ (hw _ (List.mem_of_getElem? (i := 43) rfl))) (mvT hZ (hw _ (List.mem_of_getElem? (i := 42) rfl))) (by decide) (backOf (W := 0) (rm5a l Z a0 hw [] b4 b2 T15.heap n0 Zs15 r15_0 r15_1 r15_2) hZ (hw _ (List.mem_of_getElem? (i := 44) rfl)) (hw _ (List.mem_of_getElem? (i := 14) rfl)) (by decide) (by decide)) q19a q19c (g := (mkF m 53 #[.val (.int p0), .val (.int p1), .val (.int p2), .val (.int p3), .val (.int p4), .val (.int (p0 &&& (3 : Int32))), .val .null, .val (.ref b2), .val (.ref b4), .unset] [(.ref b4)])) rfl (by rw [hml]; rfl) (Steps.refl _) (argsL := []) (rest := []) (lenOf pd_8 rfl) rfl (by show 2 * 0 + _ ≤ _; exact Nat.le_of_eq rfl) (hb hby at_53) (fun _ _ => ⟨rfl, rfl, (by decide : 6 + 0 ≤ _), (by decide : 19 + 0 ≤ _)⟩)
    dsimp only [Pt.U, Pt.locs, Pt.cells, Pt.slots] at X19 l19 y19 z19 st19 hQ19
    subst l19 y19 z19
    obtain ⟨rfl, Nq19, eh19⟩ := hQ19
    have N19 := Fr.app N15 Nq19
    refine own_trW st19 ?_
    show own_GW _ _ _ (T19.setTop (mkF m 56 #[.val (.int p0), .val (.int p1), .val (.int p2), .val (.int p3), .val (.int p4), .val (.int (p0 &&& (3 : Int32))), .val .null, .val (.ref b2), .val (.ref b4), .unset] [(.ref b2)])) _ _ _ _ _ _
    refine own_goW (fun _ k => XS.astore X19.here hx rfl (hb hby at_56) rfl rfl (l' := #[.val (.int p0), .val (.int p1), .val (.int p2), .val (.int p3), .val (.int p4), .val (.int (p0 &&& (3 : Int32))), .val .null, .val (.ref b2), .val (.ref b4), .val (.ref b2)]) rfl k) ?_
    show own_GW _ _ _ (T19.setTop (mkF m 58 #[.val (.int p0), .val (.int p1), .val (.int p2), .val (.int p3), .val (.int p4), .val (.int (p0 &&& (3 : Int32))), .val .null, .val (.ref b2), .val (.ref b4), .val (.ref b2)] [])) _ _ _ _ _ _
    refine own_goW (fun _ k => XS.aload X19.here hx rfl (hb hby at_58) rfl rfl k) ?_
    show own_GW _ _ _ (T19.setTop (mkF m 60 #[.val (.int p0), .val (.int p1), .val (.int p2), .val (.int p3), .val (.int p4), .val (.int (p0 &&& (3 : Int32))), .val .null, .val (.ref b2), .val (.ref b4), .val (.ref b2)] [(.ref b2)])) _ _ _ _ _ _
    refine own_goW (fun _ k => XS.ifnonnullYes X19.here hx rfl (pc0 := 60) (pc' := 65) rfl (hb hby at_60) rfl (by decide) (by decide) k) ?_
    show own_GW _ _ _ (T19.setTop (mkF m 65 #[.val (.int p0), .val (.int p1), .val (.int p2), .val (.int p3), .val (.int p4), .val (.int (p0 &&& (3 : Int32))), .val .null, .val (.ref b2), .val (.ref b4), .val (.ref b2)] [])) _ _ _ _ _ _
    refine own_goW (fun _ k => XS.aload X19.here hx rfl (hb hby at_65) rfl rfl k) ?_
    show own_GW _ _ _ (T19.setTop (mkF m 67 #[.val (.int p0), .val (.int p1), .val (.int p2), .val (.int p3), .val (.int p4), .val (.int (p0 &&& (3 : Int32))), .val .null, .val (.ref b2), .val (.ref b4), .val (.ref b2)] [.null])) _ _ _ _ _ _
    refine own_goW (fun _ k => XS.ifnonnullNo X19.here hx rfl (hb hby at_67) rfl k) ?_
    show own_GW _ _ _ (T19.setTop (mkF m 70 #[.val (.int p0), .val (.int p1), .val (.int p2), .val (.int p3), .val (.int p4), .val (.int (p0 &&& (3 : Int32))), .val .null, .val (.ref b2), .val (.ref b4), .val (.ref b2)] [])) _ _ _ _ _ _
    refine own_goW (fun _ k => XS.aload X19.here hx rfl (hb hby at_70) rfl rfl k) ?_
    show own_GW _ _ _ (T19.setTop (mkF m 72 #[.val (.int p0), .val (.int p1), .val (.int p2), .val (.int p3), .val (.int p4), .val (.int (p0 &&& (3 : Int32))), .val .null, .val (.ref b2), .val (.ref b4), .val (.ref b2)] [(.ref b2)])) _ _ _ _ _ _
    refine own_goW (fun _ k => XS.aload X19.here hx rfl (hb hby at_72) rfl rfl k) ?_
    show own_GW _ _ _ (T19.setTop (mkF m 74 #[.val (.int p0), .val (.int p1), .val (.int p2), .val (.int p3), .val (.int p4), .val (.int (p0 &&& (3 : Int32))), .val .null, .val (.ref b2), .val (.ref b4), .val (.ref b2)] [(.ref b2), (.ref b2)])) _ _ _ _ _ _
    obtain ⟨cq20, kq20, q20a, q20b, q20c⟩ := isOf hZ eh19 f17
    obtain ⟨_, _, ⟨T20, L20, k20, n20⟩, -, X20, ⟨Lc20, hQ20, l20, y20, z20⟩, st20⟩ := X19.virtualBack hx (y := (⟨"java/lang/String", "equals", "(Ljava/lang/Object;)Z"⟩ : MethodName)) (z := (⟨"java/lang/String", "equals", "(Ljava/lang/Object;)Z"⟩ : MethodName)) hown (mvT hZ (hw _ (List.mem_of_getElem? (i := 45) rfl))) (mvT hZ (hw _ (List.mem_of_getElem? (i := 46) rfl))) (notFace_of_selects (args := #[]) (mvT hZ (hw _ (List.mem_of_getElem? (i := 48) rfl)))) (mvT hZ (hw _ (List.mem_of_getElem? (i := 48) rfl))) (mvT hZ (hw _ (List.mem_of_getElem? (i := 47) rfl))) (by decide) (backOf (W := 0) (rm6 l Z a0 hw [] b2 b2 T15.heap n0) hZ (hw _ (List.mem_of_getElem? (i := 49) rfl)) (hw _ (List.mem_of_getElem? (i := 5) rfl)) (by decide) (by decide)) q20a q20c (g := (mkF m 74 #[.val (.int p0), .val (.int p1), .val (.int p2), .val (.int p3), .val (.int p4), .val (.int (p0 &&& (3 : Int32))), .val .null, .val (.ref b2), .val (.ref b4), .val (.ref b2)] [(.ref b2), (.ref b2)])) rfl (by rw [hml]; rfl) (Steps.refl _) (argsL := [(.ref b2)]) (rest := []) (lenOf pd_9 rfl) rfl (by show 2 * 0 + _ ≤ _; exact Nat.le_of_eq rfl) (hb hby at_74) (fun _ _ => ⟨rfl, eh19, (by decide : 6 + 0 ≤ _), (by decide : 19 + 0 ≤ _)⟩)
    dsimp only [Pt.U, Pt.locs, Pt.cells, Pt.slots] at X20 l20 y20 z20 st20 hQ20
    subst l20 y20 z20
    obtain ⟨rfl, Nq20, eh20⟩ := hQ20
    have N20 := Fr.app N19 Nq20
    refine own_trW st20 ?_
    show own_GW _ _ _ (T20.setTop (mkF m 77 #[.val (.int p0), .val (.int p1), .val (.int p2), .val (.int p3), .val (.int p4), .val (.int (p0 &&& (3 : Int32))), .val .null, .val (.ref b2), .val (.ref b4), .val (.ref b2)] [(.int (1 : Int32))])) _ _ _ _ _ _
    have hc21 : ¬ ((1 : Int32) = (0 : Int32)) := (by decide)
    refine own_goW (fun _ k => XS.ifNo X20.here hx rfl (hb hby at_77) rfl ((if0 _ _).trans (feq hc21).1) k) ?_
    show own_GW _ _ _ (T20.setTop (mkF m 80 #[.val (.int p0), .val (.int p1), .val (.int p2), .val (.int p3), .val (.int p4), .val (.int (p0 &&& (3 : Int32))), .val .null, .val (.ref b2), .val (.ref b4), .val (.ref b2)] [])) _ _ _ _ _ _
    refine own_goW (fun _ k => XS.aload X20.here hx rfl (hb hby at_80) rfl rfl k) ?_
    show own_GW _ _ _ (T20.setTop (mkF m 82 #[.val (.int p0), .val (.int p1), .val (.int p2), .val (.int p3), .val (.int p4), .val (.int (p0 &&& (3 : Int32))), .val .null, .val (.ref b2), .val (.ref b4), .val (.ref b2)] [(.ref b2)])) _ _ _ _ _ _
    refine own_goW (fun _ k => XS.aload X20.here hx rfl (hb hby at_82) rfl rfl k) ?_
    show own_GW _ _ _ (T20.setTop (mkF m 84 #[.val (.int p0), .val (.int p1), .val (.int p2), .val (.int p3), .val (.int p4), .val (.int (p0 &&& (3 : Int32))), .val .null, .val (.ref b2), .val (.ref b4), .val (.ref b2)] [(.ref b4), (.ref b2)])) _ _ _ _ _ _
    obtain ⟨cq22, kq22, q22a, q22b, q22c⟩ := isOf hZ eh20 r15_0
    obtain ⟨_, _, ⟨T22, L22, k22, n22⟩, -, X22, ⟨Lc22, hQ22, l22, y22, z22⟩, st22⟩ := X20.virtualBack hx (y := (⟨"com/example/pacelint/pacelint/io/XmlElement", "name", "()Ljava/lang/String;"⟩ : MethodName)) (z := (⟨"com/example/pacelint/pacelint/io/XmlElement", "name", "()Ljava/lang/String;"⟩ : MethodName)) hown (mvT hZ (hw _ (List.mem_of_getElem? (i := 50) rfl))) (mvT hZ (hw _ (List.mem_of_getElem? (i := 51) rfl))) (notFace_of_selects (args := #[]) (mvT hZ (hw _ (List.mem_of_getElem? (i := 53) rfl)))) (mvT hZ (hw _ (List.mem_of_getElem? (i := 53) rfl))) (mvT hZ (hw _ (List.mem_of_getElem? (i := 52) rfl))) (by decide) (backOf (W := 1) (rm7 l Z a0 hw [] b4 b2 T15.heap n0 Zs15 r15_0 r15_1 r15_2) hZ (hw _ (List.mem_of_getElem? (i := 54) rfl)) (hw _ (List.mem_of_getElem? (i := 14) rfl)) (by decide) (by decide)) q22a q22c (g := (mkF m 84 #[.val (.int p0), .val (.int p1), .val (.int p2), .val (.int p3), .val (.int p4), .val (.int (p0 &&& (3 : Int32))), .val .null, .val (.ref b2), .val (.ref b4), .val (.ref b2)] [(.ref b4), (.ref b2)])) rfl (by rw [hml]; rfl) (Steps.refl _) (argsL := []) (rest := [(.ref b2)]) (lenOf pd_8 rfl) rfl (by show 2 * 0 + _ ≤ _; exact Nat.le_of_eq rfl) (hb hby at_84) (fun _ _ => ⟨rfl, eh20, (by decide : 6 + 0 ≤ _), (by decide : 19 + 0 ≤ _)⟩)
    dsimp only [Pt.U, Pt.locs, Pt.cells, Pt.slots] at X22 l22 y22 z22 st22 hQ22
    subst l22 y22 z22
    obtain ⟨rfl, Nq22, eh22⟩ := hQ22
    have N22 := Fr.app N20 Nq22
    refine own_trW st22 ?_
    show own_GW _ _ _ (T22.setTop (mkF m 87 #[.val (.int p0), .val (.int p1), .val (.int p2), .val (.int p3), .val (.int p4), .val (.int (p0 &&& (3 : Int32))), .val .null, .val (.ref b2), .val (.ref b4), .val (.ref b2)] [(.ref b2), (.ref b2)])) _ _ _ _ _ _
    obtain ⟨cq23, kq23, q23a, q23b, q23c⟩ := isOf hZ eh22 f17
    obtain ⟨_, _, ⟨T23, L23, k23, n23⟩, -, X23, ⟨Lc23, hQ23, l23, y23, z23⟩, st23⟩ := X22.virtualBack hx (y := (⟨"java/lang/String", "equals", "(Ljava/lang/Object;)Z"⟩ : MethodName)) (z := (⟨"java/lang/String", "equals", "(Ljava/lang/Object;)Z"⟩ : MethodName)) hown (mvT hZ (hw _ (List.mem_of_getElem? (i := 45) rfl))) (mvT hZ (hw _ (List.mem_of_getElem? (i := 46) rfl))) (notFace_of_selects (args := #[]) (mvT hZ (hw _ (List.mem_of_getElem? (i := 48) rfl)))) (mvT hZ (hw _ (List.mem_of_getElem? (i := 48) rfl))) (mvT hZ (hw _ (List.mem_of_getElem? (i := 47) rfl))) (by decide) (backOf (W := 0) (rm6 l Z a0 hw [] b2 b2 T15.heap n0) hZ (hw _ (List.mem_of_getElem? (i := 49) rfl)) (hw _ (List.mem_of_getElem? (i := 5) rfl)) (by decide) (by decide)) q23a q23c (g := (mkF m 87 #[.val (.int p0), .val (.int p1), .val (.int p2), .val (.int p3), .val (.int p4), .val (.int (p0 &&& (3 : Int32))), .val .null, .val (.ref b2), .val (.ref b4), .val (.ref b2)] [(.ref b2), (.ref b2)])) rfl (by rw [hml]; rfl) (Steps.refl _) (argsL := [(.ref b2)]) (rest := []) (lenOf pd_9 rfl) rfl (by show 2 * 0 + _ ≤ _; exact Nat.le_of_eq rfl) (hb hby at_87) (fun _ _ => ⟨rfl, eh22, (by decide : 6 + 0 ≤ _), (by decide : 19 + 0 ≤ _)⟩)
    dsimp only [Pt.U, Pt.locs, Pt.cells, Pt.slots] at X23 l23 y23 z23 st23 hQ23
    subst l23 y23 z23
    obtain ⟨rfl, Nq23, eh23⟩ := hQ23
    have N23 := Fr.app N22 Nq23
    refine own_trW st23 ?_
    show own_GW _ _ _ (T23.setTop (mkF m 90 #[.val (.int p0), .val (.int p1), .val (.int p2), .val (.int p3), .val (.int p4), .val (.int (p0 &&& (3 : Int32))), .val .null, .val (.ref b2), .val (.ref b4), .val (.ref b2)] [(.int (1 : Int32))])) _ _ _ _ _ _
    have hc24 : ¬ ((1 : Int32) = (0 : Int32)) := (by decide)
    refine own_goW (fun _ k => XS.ifNo X23.here hx rfl (hb hby at_90) rfl ((if0 _ _).trans (feq hc24).1) k) ?_
    show own_GW _ _ _ (T23.setTop (mkF m 93 #[.val (.int p0), .val (.int p1), .val (.int p2), .val (.int p3), .val (.int p4), .val (.int (p0 &&& (3 : Int32))), .val .null, .val (.ref b2), .val (.ref b4), .val (.ref b2)] [])) _ _ _ _ _ _
    refine own_goW (fun _ k => XS.iconst X23.here hx rfl (hb hby at_93) k) ?_
    show own_GW _ _ _ (T23.setTop (mkF m 94 #[.val (.int p0), .val (.int p1), .val (.int p2), .val (.int p3), .val (.int p4), .val (.int (p0 &&& (3 : Int32))), .val .null, .val (.ref b2), .val (.ref b4), .val (.ref b2)] [(.int (1 : Int32))])) _ _ _ _ _ _
    refine own_goW (fun _ k => XS.goto X23.here hx rfl (pc0 := 94) (pc' := 98) rfl (hb hby at_94) (by decide) (by decide) k) ?_
    show own_GW _ _ _ (T23.setTop (mkF m 98 #[.val (.int p0), .val (.int p1), .val (.int p2), .val (.int p3), .val (.int p4), .val (.int (p0 &&& (3 : Int32))), .val .null, .val (.ref b2), .val (.ref b4), .val (.ref b2)] [(.int (1 : Int32))])) _ _ _ _ _ _
    have CQ25 := CR15.trans (CHr.keep KS15 all0 CR15.1)
    have CE25 : CHr Z own_EL s.vm s.heap T23.vm T23.heap := by rw [hh, show T23.heap = T15.heap from eh23]; exact CQ25.trans (CHv.at X23 hZ (own_EW hw) CQ25.1)
    exact own_endWN X23 hx hlk (t := .boolean) Bd.returns (by simp) (hb hby at_98) hS15 (show _ ≤ T23.heap.size by rw [show T23.heap = T15.heap from eh23]; exact (Nat.le_trans (Nat.le_refl _) KS15.1)) (by decide) (by decide) CE25 (Q := (Q0 Z p0 p1 p2 p3 p4 zc el h0 n0)) (by rw [eh23]; exact ⟨rfl, N23, K15_0⟩)
  · refine own_goW (fun _ k => XS.ifYes X0.here hx rfl (pc0 := 7) (pc' := 14) rfl (hb hby at_7) rfl ((if0 _ _).trans (feq hc1).2) (by decide) (by decide) k) ?_
    show own_GW _ _ _ (s₁.setTop (mkF m 14 #[.val (.int p0), .val (.int p1), .val (.int p2), .val (.int p3), .val (.int p4), .val (.int (p0 &&& (3 : Int32))), .unset, .unset, .unset, .unset] [])) _ _ _ _ _ _
    refine own_goW (fun _ k => XS.iload X0.here hx rfl (hb hby at_14) rfl k) ?_
    show own_GW _ _ _ (s₁.setTop (mkF m 16 #[.val (.int p0), .val (.int p1), .val (.int p2), .val (.int p3), .val (.int p4), .val (.int (p0 &&& (3 : Int32))), .unset, .unset, .unset, .unset] [(.int (p0 &&& (3 : Int32)))])) _ _ _ _ _ _
    refine own_goW (fun _ k => XS.iconst X0.here hx rfl (hb hby at_16) k) ?_
    show own_GW _ _ _ (s₁.setTop (mkF m 17 #[.val (.int p0), .val (.int p1), .val (.int p2), .val (.int p3), .val (.int p4), .val (.int (p0 &&& (3 : Int32))), .unset, .unset, .unset, .unset] [(.int (1 : Int32)), (.int (p0 &&& (3 : Int32)))])) _ _ _ _ _ _
    refine own_goW (fun _ k => XS.isub X0.here hx rfl (hb hby at_17) rfl k) ?_
    show own_GW _ _ _ (s₁.setTop (mkF m 18 #[.val (.int p0), .val (.int p1), .val (.int p2), .val (.int p3), .val (.int p4), .val (.int (p0 &&& (3 : Int32))), .unset, .unset, .unset, .unset] [(.int ((p0 &&& (3 : Int32)) - (1 : Int32)))])) _ _ _ _ _ _
    refine own_goW (fun _ k => XS.iloadN X0.here hx rfl (hb hby at_18) rfl k) ?_
    show own_GW _ _ _ (s₁.setTop (mkF m 19 #[.val (.int p0), .val (.int p1), .val (.int p2), .val (.int p3), .val (.int p4), .val (.int (p0 &&& (3 : Int32))), .unset, .unset, .unset, .unset] [(.int p1), (.int ((p0 &&& (3 : Int32)) - (1 : Int32)))])) _ _ _ _ _ _
    refine own_goW (fun _ k => XS.iloadN X0.here hx rfl (hb hby at_19) rfl k) ?_
    show own_GW _ _ _ (s₁.setTop (mkF m 20 #[.val (.int p0), .val (.int p1), .val (.int p2), .val (.int p3), .val (.int p4), .val (.int (p0 &&& (3 : Int32))), .unset, .unset, .unset, .unset] [(.int p2), (.int p1), (.int ((p0 &&& (3 : Int32)) - (1 : Int32)))])) _ _ _ _ _ _
    have CQ26 := CR0.trans (CHr.keep KS0 all0 CR0.1)
    obtain ⟨_, _, ⟨T26, L26, k26, n26⟩, -, X26, hS'26, gh26, ⟨Lc26, hQ26, l26, y26, z26, CC26⟩, st26⟩ := callSS X0 hx (y := (⟨"com/example/pacelint/pacelint/io/XmlElementAutosarNamePinLaw", "draw", "(III)Ljava/lang/String;"⟩ : MethodName)) hown (mvT hZ (hw _ (List.mem_of_getElem? (i := 0) rfl))) (mvT hZ (hw _ (List.mem_of_getElem? (i := 1) rfl))) (mvT hZ (hw _ (List.mem_of_getElem? (i := 2) rfl))) (mvT hZ (hw _ (List.mem_of_getElem? (i := 3) rfl))) (by decide) (backOfSH (W := 0) (rm1 l Z a0 hw [] ((p0 &&& (3 : Int32)) - (1 : Int32)) p1 p2 zc h0 n0 Z0 P_Old P_ZS_java_lang_String_COMPACT_STRINGS (by assumption)) hZ (hw _ (List.mem_of_getElem? (i := 3) rfl)) (hw _ (List.mem_of_getElem? (i := 2) rfl)) (by decide) (by decide) (own_EW hw) CQ26.1) (g := (mkF m 20 #[.val (.int p0), .val (.int p1), .val (.int p2), .val (.int p3), .val (.int p4), .val (.int (p0 &&& (3 : Int32))), .unset, .unset, .unset, .unset] [(.int p2), (.int p1), (.int ((p0 &&& (3 : Int32)) - (1 : Int32)))])) rfl (by rw [hml]; rfl) (argsL := [(.int ((p0 &&& (3 : Int32)) - (1 : Int32))), (.int p1), (.int p2)]) (rest := []) (lenOf pd_6 rfl) rfl (by show 2 * 0 + _ ≤ _; exact Nat.le_of_eq rfl) (hb hby at_20) (fun _ _ => ⟨rfl, e0, (by decide : 0 + 3 ≤ _), (by decide : 0 + 8 ≤ _)⟩)
    dsimp only [Pt.U, Pt.locs, Pt.cells, Pt.slots] at X26 l26 y26 z26 st26 hQ26 hS'26 gh26 CC26
    subst l26 y26 z26
    have hk26 : h0.size ≤ T26.heap.size := by rw [← show s₁.heap = h0 from e0]; exact gh26
    obtain ⟨X26, hS26, hZ, hown⟩ := rebS hS0 (Nat.le_trans hk0 KS0.1) X26 hS'26 hk26 hZ hown
    have CR26 := CQ26.trans CC26
    obtain ⟨b26, rfl, Nq26, Kq26, r26_0⟩ := hQ26
    have N26 := Fr.app N0 Nq26
    have f27 : Old Z n0 T26.heap := P_Old.keep Kq26 all0
    have Zs26 : n0 ≤ T26.heap.size := Nat.le_trans Z0 Kq26.1
    have K26_0 : Keep h0 T26.heap [] := K0.trans Kq26 all0
    have KS26 : Keep T26.heap T26.heap [] := Keep.refl _ _
    refine own_trW st26 ?_
    show own_GW _ _ _ (T26.setTop (mkF m 23 #[.val (.int p0), .val (.int p1), .val (.int p2), .val (.int p3), .val (.int p4), .val (.int (p0 &&& (3 : Int32))), .unset, .unset, .unset, .unset] [(.ref b26)])) _ _ _ _ _ _
    refine own_goW (fun _ k => XS.astore X26.here hx rfl (hb hby at_23) rfl rfl (l' := #[.val (.int p0), .val (.int p1), .val (.int p2), .val (.int p3), .val (.int p4), .val (.int (p0 &&& (3 : Int32))), .val (.ref b26), .unset, .unset, .unset]) rfl k) ?_
    show own_GW _ _ _ (T26.setTop (mkF m 25 #[.val (.int p0), .val (.int p1), .val (.int p2), .val (.int p3), .val (.int p4), .val (.int (p0 &&& (3 : Int32))), .val (.ref b26), .unset, .unset, .unset] [])) _ _ _ _ _ _
    refine own_goW (fun _ k => XS.iloadN X26.here hx rfl (hb hby at_25) rfl k) ?_
    show own_GW _ _ _ (T26.setTop (mkF m 26 #[.val (.int p0), .val (.int p1), .val (.int p2), .val (.int p3), .val (.int p4), .val (.int (p0 &&& (3 : Int32))), .val (.ref b26), .unset, .unset, .unset] [(.int p0)])) _ _ _ _ _ _
    refine own_goW (fun _ k => XS.iconst X26.here hx rfl (hb hby at_26) k) ?_
    show own_GW _ _ _ (T26.setTop (mkF m 27 #[.val (.int p0), .val (.int p1), .val (.int p2), .val (.int p3), .val (.int p4), .val (.int (p0 &&& (3 : Int32))), .val (.ref b26), .unset, .unset, .unset] [(.int (2 : Int32)), (.int p0)])) _ _ _ _ _ _
    refine own_goW (fun _ k => XS.ishr X26.here hx rfl (hb hby at_27) rfl k) ?_
    show own_GW _ _ _ (T26.setTop (mkF m 28 #[.val (.int p0), .val (.int p1), .val (.int p2), .val (.int p3), .val (.int p4), .val (.int (p0 &&& (3 : Int32))), .val (.ref b26), .unset, .unset, .unset] [(.int (p0 >>> ((2 : Int32) &&& 31)))])) _ _ _ _ _ _
    refine own_goW (fun _ k => XS.iloadN X26.here hx rfl (hb hby at_28) rfl k) ?_
    show own_GW _ _ _ (T26.setTop (mkF m 29 #[.val (.int p0), .val (.int p1), .val (.int p2), .val (.int p3), .val (.int p4), .val (.int (p0 &&& (3 : Int32))), .val (.ref b26), .unset, .unset, .unset] [(.int p3), (.int (p0 >>> ((2 : Int32) &&& 31)))])) _ _ _ _ _ _
    refine own_goW (fun _ k => XS.iload X26.here hx rfl (hb hby at_29) rfl k) ?_
    show own_GW _ _ _ (T26.setTop (mkF m 31 #[.val (.int p0), .val (.int p1), .val (.int p2), .val (.int p3), .val (.int p4), .val (.int (p0 &&& (3 : Int32))), .val (.ref b26), .unset, .unset, .unset] [(.int p4), (.int p3), (.int (p0 >>> ((2 : Int32) &&& 31)))])) _ _ _ _ _ _
    have CQ28 := CR26.trans (CHr.keep KS26 all0 CR26.1)
    obtain ⟨_, _, ⟨T28, L28, k28, n28⟩, -, X28, hS'28, gh28, ⟨Lc28, hQ28, l28, y28, z28, CC28⟩, st28⟩ := callSS X26 hx (y := (⟨"com/example/pacelint/pacelint/io/XmlElementAutosarNamePinLaw", "draw", "(III)Ljava/lang/String;"⟩ : MethodName)) hown (mvT hZ (hw _ (List.mem_of_getElem? (i := 0) rfl))) (mvT hZ (hw _ (List.mem_of_getElem? (i := 1) rfl))) (mvT hZ (hw _ (List.mem_of_getElem? (i := 2) rfl))) (mvT hZ (hw _ (List.mem_of_getElem? (i := 3) rfl))) (by decide) (backOfSH (W := 0) (rm1 l Z a0 hw [] (p0 >>> ((2 : Int32) &&& 31)) p3 p4 zc T26.heap n0 Zs26 f27 P_ZS_java_lang_String_COMPACT_STRINGS (by assumption)) hZ (hw _ (List.mem_of_getElem? (i := 3) rfl)) (hw _ (List.mem_of_getElem? (i := 2) rfl)) (by decide) (by decide) (own_EW hw) CQ28.1) (g := (mkF m 31 #[.val (.int p0), .val (.int p1), .val (.int p2), .val (.int p3), .val (.int p4), .val (.int (p0 &&& (3 : Int32))), .val (.ref b26), .unset, .unset, .unset] [(.int p4), (.int p3), (.int (p0 >>> ((2 : Int32) &&& 31)))])) rfl (by rw [hml]; rfl) (argsL := [(.int (p0 >>> ((2 : Int32) &&& 31))), (.int p3), (.int p4)]) (rest := []) (lenOf pd_6 rfl) rfl (by show 2 * 0 + _ ≤ _; exact Nat.le_of_eq rfl) (hb hby at_31) (fun _ _ => ⟨rfl, rfl, (by decide : 3 + 3 ≤ _), (by decide : 8 + 8 ≤ _)⟩)
    dsimp only [Pt.U, Pt.locs, Pt.cells, Pt.slots] at X28 l28 y28 z28 st28 hQ28 hS'28 gh28 CC28
    subst l28 y28 z28
    have hk28 : T26.heap.size ≤ T28.heap.size := by rw [← show T26.heap = T26.heap from rfl]; exact gh28
    obtain ⟨X28, hS28, hZ, hown⟩ := rebS hS26 (Nat.le_trans (Nat.le_refl _) KS26.1) X28 hS'28 hk28 hZ hown
    have CR28 := CQ28.trans CC28
    obtain ⟨b28, rfl, Nq28, Kq28, r28_0⟩ := hQ28
    have N28 := Fr.app N26 Nq28
    have f29 : Old Z n0 T28.heap := f27.keep Kq28 all0
    have f30 : Exa Z T28.heap b26 "java/lang/String" := r26_0.keep Kq28
    have Zs28 : n0 ≤ T28.heap.size := Nat.le_trans Zs26 Kq28.1
    have K28_0 : Keep h0 T28.heap [] := K26_0.trans Kq28 all0
    have KS28 : Keep T28.heap T28.heap [] := Keep.refl _ _
    refine own_trW st28 ?_
    show own_GW _ _ _ (T28.setTop (mkF m 34 #[.val (.int p0), .val (.int p1), .val (.int p2), .val (.int p3), .val (.int p4), .val (.int (p0 &&& (3 : Int32))), .val (.ref b26), .unset, .unset, .unset] [(.ref b28)])) _ _ _ _ _ _
    refine own_goW (fun _ k => XS.astore X28.here hx rfl (hb hby at_34) rfl rfl (l' := #[.val (.int p0), .val (.int p1), .val (.int p2), .val (.int p3), .val (.int p4), .val (.int (p0 &&& (3 : Int32))), .val (.ref b26), .val (.ref b28), .unset, .unset]) rfl k) ?_
    show own_GW _ _ _ (T28.setTop (mkF m 36 #[.val (.int p0), .val (.int p1), .val (.int p2), .val (.int p3), .val (.int p4), .val (.int (p0 &&& (3 : Int32))), .val (.ref b26), .val (.ref b28), .unset, .unset] [])) _ _ _ _ _ _
    obtain ⟨T31, h31, X31, e31, E31, A31, D31, -, st31⟩ := newO X28 hx hZ hown (hw _ (List.mem_of_getElem? (i := 12) rfl)) (hw _ (List.mem_of_getElem? (i := 13) rfl)) (hw _ (List.mem_of_getElem? (i := 14) rfl)) rfl (g := (mkF m 36 #[.val (.int p0), .val (.int p1), .val (.int p2), .val (.int p3), .val (.int p4), .val (.int (p0 &&& (3 : Int32))), .val (.ref b26), .val (.ref b28), .unset, .unset] [])) rfl (hb hby at_36) (by decide) (by decide)
    obtain ⟨b31, g31⟩ : ∃ z, z = T28.heap.size := ⟨_, rfl⟩
    rw [← g31] at A31 D31 st31
    have ne32 : b26 ≠ b31 := Nat.ne_of_lt (Nat.lt_of_lt_of_le f30.lt (Nat.le_of_eq g31.symm))
    have ne33 : b28 ≠ b31 := Nat.ne_of_lt (Nat.lt_of_lt_of_le r28_0.lt (Nat.le_of_eq g31.symm))
    have gg31 : n0 ≤ b31 := Nat.le_trans Zs28 (Nat.le_of_eq g31.symm)
    have sz31_0 : h0.size ≤ b31 := Nat.le_trans K28_0.1 (Nat.le_of_eq g31.symm)
    have sz31_1 : T28.heap.size ≤ b31 := Nat.le_trans KS28.1 (Nat.le_of_eq g31.symm)
    have Zs31 : n0 ≤ h31.size := Nat.le_trans Zs28 E31.1
    have K31_0 : Keep h0 h31 [] := K28_0.ext E31
    have K31_1 : Keep T28.heap h31 [] := KS28.ext E31
    have f34 : Old Z n0 h31 := f29.ext E31
    have f35 : Exa Z h31 b26 "java/lang/String" := f30.ext E31
    have f36 : Exa Z h31 b28 "java/lang/String" := r28_0.ext E31
    have f37 : Exa Z h31 b31 "com/example/pacelint/pacelint/io/XmlElement" := A31
    have f38 : Fld Z h31 b31 "com/example/pacelint/pacelint/io/XmlElement" "children" "Ljava/util/List;" .null := D31 (Or.inl (hw _ (List.mem_of_getElem? (i := 28) rfl))) (ty := (.object "java/util/List")) (by decide)
    have f39 : Fld Z h31 b31 "com/example/pacelint/pacelint/io/XmlElement" "text" "Ljava/lang/String;" .null := D31 (Or.inl (hw _ (List.mem_of_getElem? (i := 31) rfl))) (ty := (.object "java/lang/String")) (by decide)
    have f40 : Fld Z h31 b31 "com/example/pacelint/pacelint/io/XmlElement" "namespace" "Ljava/lang/String;" .null := D31 (Or.inr (hw _ (List.mem_of_getElem? (i := 33) rfl))) (ty := (.object "java/lang/String")) (by decide)
    have f41 : Fld Z h31 b31 "com/example/pacelint/pacelint/io/XmlElement" "localName" "Ljava/lang/String;" .null := D31 (Or.inr (hw _ (List.mem_of_getElem? (i := 35) rfl))) (ty := (.object "java/lang/String")) (by decide)
    have f42 : Fld Z h31 b31 "com/example/pacelint/pacelint/io/XmlElement" "location" "Lcom/example/pacelint/pacelint/model/Location;" .null := D31 (Or.inr (hw _ (List.mem_of_getElem? (i := 37) rfl))) (ty := (.object "com/example/pacelint/pacelint/model/Location")) (by decide)
    have f43 : Fld Z h31 b31 "com/example/pacelint/pacelint/io/XmlElement" "attributes" "Ljava/util/Map;" .null := D31 (Or.inr (hw _ (List.mem_of_getElem? (i := 39) rfl))) (ty := (.object "java/util/Map")) (by decide)
    refine own_goW (fun _ k => st31 _ k) ?_
    show own_GW _ _ _ (T31.setTop (mkF m 39 #[.val (.int p0), .val (.int p1), .val (.int p2), .val (.int p3), .val (.int p4), .val (.int (p0 &&& (3 : Int32))), .val (.ref b26), .val (.ref b28), .unset, .unset] [(.ref b31)])) _ _ _ _ _ _
    refine own_goW (fun _ k => XS.dup X31.here hx rfl (hb hby at_39) rfl rfl k) ?_
    show own_GW _ _ _ (T31.setTop (mkF m 40 #[.val (.int p0), .val (.int p1), .val (.int p2), .val (.int p3), .val (.int p4), .val (.int (p0 &&& (3 : Int32))), .val (.ref b26), .val (.ref b28), .unset, .unset] [(.ref b31), (.ref b31)])) _ _ _ _ _ _
    refine own_goW (fun _ k => XS.aload X31.here hx rfl (hb hby at_40) rfl rfl k) ?_
    show own_GW _ _ _ (T31.setTop (mkF m 42 #[.val (.int p0), .val (.int p1), .val (.int p2), .val (.int p3), .val (.int p4), .val (.int (p0 &&& (3 : Int32))), .val (.ref b26), .val (.ref b28), .unset, .unset] [(.ref b26), (.ref b31), (.ref b31)])) _ _ _ _ _ _
    refine own_goW (fun _ k => XS.aload X31.here hx rfl (hb hby at_42) rfl rfl k) ?_
    show own_GW _ _ _ (T31.setTop (mkF m 44 #[.val (.int p0), .val (.int p1), .val (.int p2), .val (.int p3), .val (.int p4), .val (.int (p0 &&& (3 : Int32))), .val (.ref b26), .val (.ref b28), .unset, .unset] [(.ref b28), (.ref b26), (.ref b31), (.ref b31)])) _ _ _ _ _ _
    refine own_goW (fun _ k => XS.aconstNull X31.here hx rfl (hb hby at_44) k) ?_
    show own_GW _ _ _ (T31.setTop (mkF m 45 #[.val (.int p0), .val (.int p1), .val (.int p2), .val (.int p3), .val (.int p4), .val (.int (p0 &&& (3 : Int32))), .val (.ref b26), .val (.ref b28), .unset, .unset] [.null, (.ref b28), (.ref b26), (.ref b31), (.ref b31)])) _ _ _ _ _ _
    refine own_goW (fun _ k => XS.aconstNull X31.here hx rfl (hb hby at_45) k) ?_
    show own_GW _ _ _ (T31.setTop (mkF m 46 #[.val (.int p0), .val (.int p1), .val (.int p2), .val (.int p3), .val (.int p4), .val (.int (p0 &&& (3 : Int32))), .val (.ref b26), .val (.ref b28), .unset, .unset] [.null, .null, (.ref b28), (.ref b26), (.ref b31), (.ref b31)])) _ _ _ _ _ _
    have CQ44 := CR28.trans (CHr.keep K31_1 all0 CR28.1)
    obtain ⟨_, _, ⟨T44, L44, k44, n44⟩, -, X44, hS'44, gh44, ⟨Lc44, hQ44, l44, y44, z44, CC44⟩, st44⟩ := X31.specialBackS hx (y := (⟨"com/example/pacelint/pacelint/io/XmlElement", "<init>", "(Ljava/lang/String;Ljava/lang/String;Lcom/example/pacelint/pacelint/model/Location;Ljava/util/Map;)V"⟩ : MethodName)) rfl hown (mvT hZ (hw _ (List.mem_of_getElem? (i := 15) rfl))) (mvT hZ (hw _ (List.mem_of_getElem? (i := 16) rfl))) (mvT hZ (hw _ (List.mem_of_getElem? (i := 17) rfl))) (by decide) (backOfSH (W := 1) (rm2b l Z a0 hw [] b31 b26 b28 el h31 n0 Zs31 f34 P_ZS_java_util_ImmutableCollections_EMPTY_LIST f37 f38 f39 f40 f41 f42 f43 gg31) hZ (hw _ (List.mem_of_getElem? (i := 17) rfl)) (hw _ (List.mem_of_getElem? (i := 14) rfl)) (by decide) (by decide) (own_EW hw) CQ44.1) (g := (mkF m 46 #[.val (.int p0), .val (.int p1), .val (.int p2), .val (.int p3), .val (.int p4), .val (.int (p0 &&& (3 : Int32))), .val (.ref b26), .val (.ref b28), .unset, .unset] [.null, .null, (.ref b28), (.ref b26), (.ref b31), (.ref b31)])) rfl (by rw [hml]; rfl) (Steps.refl _) (a := b31) (argsL := [(.ref b26), (.ref b28), .null, .null]) (rest := [(.ref b31)]) (lenOf pd_7 rfl) rfl (by show 2 * 0 + _ ≤ _; exact Nat.le_of_eq rfl) (hb hby at_46) (fun _ _ => ⟨rfl, e31, (by decide : 7 + 2 ≤ _), (by decide : 23 + 4 ≤ _)⟩)
    dsimp only [Pt.U, Pt.locs, Pt.cells, Pt.slots] at X44 l44 y44 z44 st44 hQ44 hS'44 gh44 CC44
    subst l44 y44 z44
    have hk44 : h31.size ≤ T44.heap.size := by rw [← show T31.heap = h31 from e31]; exact gh44
    obtain ⟨X44, hS44, hZ, hown⟩ := rebS hS28 (Nat.le_trans (Nat.le_refl _) K31_1.1) X44 hS'44 hk44 hZ hown
    have CR44 := CQ44.trans CC44
    obtain ⟨rfl, Nq44, Kq44, r44_0, r44_1, r44_2⟩ := hQ44
    have N44 := Fr.app N28 Nq44
    have f45 : Old Z n0 T44.heap := f34.keep Kq44 (allS gg31 all0)
    have f46 : Exa Z T44.heap b26 "java/lang/String" := f35.keep Kq44
    have f47 : Exa Z T44.heap b28 "java/lang/String" := f36.keep Kq44
    have f48 : Exa Z T44.heap b31 "com/example/pacelint/pacelint/io/XmlElement" := f37.keep Kq44
    have Zs44 : n0 ≤ T44.heap.size := Nat.le_trans Zs31 Kq44.1
    have K44_0 : Keep h0 T44.heap [] := K31_0.trans Kq44 (allS (Or.inr sz31_0) all0)
    have KS44 : Keep T44.heap T44.heap [] := Keep.refl _ _
    refine own_trW st44 ?_
    show own_GW _ _ _ (T44.setTop (mkF m 49 #[.val (.int p0), .val (.int p1), .val (.int p2), .val (.int p3), .val (.int p4), .val (.int (p0 &&& (3 : Int32))), .val (.ref b26), .val (.ref b28), .unset, .unset] [(.ref b31)])) _ _ _ _ _ _
    refine own_goW (fun _ k => XS.astore X44.here hx rfl (hb hby at_49) rfl rfl (l' := #[.val (.int p0), .val (.int p1), .val (.int p2), .val (.int p3), .val (.int p4), .val (.int (p0 &&& (3 : Int32))), .val (.ref b26), .val (.ref b28), .val (.ref b31), .unset]) rfl k) ?_
    show own_GW _ _ _ (T44.setTop (mkF m 51 #[.val (.int p0), .val (.int p1), .val (.int p2), .val (.int p3), .val (.int p4), .val (.int (p0 &&& (3 : Int32))), .val (.ref b26), .val (.ref b28), .val (.ref b31), .unset] [])) _ _ _ _ _ _
    refine own_goW (fun _ k => XS.aload X44.here hx rfl (hb hby at_51) rfl rfl k) ?_
    show own_GW _ _ _ (T44.setTop (mkF m 53 #[.val (.int p0), .val (.int p1), .val (.int p2), .val (.int p3), .val (.int p4), .val (.int (p0 &&& (3 : Int32))), .val (.ref b26), .val (.ref b28), .val (.ref b31), .unset] [(.ref b31)])) _ _ _ _ _ _
    have CQ49 := CR44.trans (CHr.keep KS44 all0 CR44.1)
    obtain ⟨cq49, kq49, q49a, q49b, q49c⟩ := isOf hZ rfl r44_0
    obtain ⟨_, _, ⟨T49, L49, k49, n49⟩, -, X49, hS'49, gh49, ⟨Lc49, hQ49, l49, y49, z49, CC49⟩, st49⟩ := X44.virtualBackS hx (y := (⟨"com/example/pacelint/pacelint/io/XmlElement", "autosarName", "()Ljava/lang/String;"⟩ : MethodName)) (z := (⟨"com/example/pacelint/pacelint/io/XmlElement", "autosarName", "()Ljava/lang/String;"⟩ : MethodName)) hown (mvT hZ (hw _ (List.mem_of_getElem? (i := 40) rfl))) (mvT hZ (hw _ (List.mem_of_getElem? (i := 41) rfl))) (notFace_of_selects (args := #[]) (mvT hZ (hw _ (List.mem_of_getElem? (i := 43) rfl)))) (mvT hZ (hw _ (List.mem_of_getElem? (i := 43) rfl))) (mvT hZ (hw _ (List.mem_of_getElem? (i := 42) rfl))) (by decide) (backOfSH (W := 0) (rm5b l Z a0 hw [] b31 b26 b28 T44.heap n0 Zs44 r44_0 r44_1 r44_2) hZ (hw _ (List.mem_of_getElem? (i := 44) rfl)) (hw _ (List.mem_of_getElem? (i := 14) rfl)) (by decide) (by decide) (own_EW hw) CQ49.1) q49a q49c (g := (mkF m 53 #[.val (.int p0), .val (.int p1), .val (.int p2), .val (.int p3), .val (.int p4), .val (.int (p0 &&& (3 : Int32))), .val (.ref b26), .val (.ref b28), .val (.ref b31), .unset] [(.ref b31)])) rfl (by rw [hml]; rfl) (Steps.refl _) (argsL := []) (rest := []) (lenOf pd_8 rfl) rfl (by show 2 * 0 + _ ≤ _; exact Nat.le_of_eq rfl) (hb hby at_53) (fun _ _ => ⟨rfl, rfl, (by decide : 9 + 2 ≤ _), (by decide : 27 + 4 ≤ _)⟩)
    dsimp only [Pt.U, Pt.locs, Pt.cells, Pt.slots] at X49 l49 y49 z49 st49 hQ49 hS'49 gh49 CC49
    subst l49 y49 z49
    have hk49 : T44.heap.size ≤ T49.heap.size := by rw [← show T44.heap = T44.heap from rfl]; exact gh49
    obtain ⟨X49, hS49, hZ, hown⟩ := rebS hS44 (Nat.le_trans (Nat.le_refl _) KS44.1) X49 hS'49 hk49 hZ hown
    have CR49 := CQ49.trans CC49
    obtain ⟨a49, t49, kt49, rfl, Nq49, Kq49, r49_0, r49_1, r49_2⟩ := hQ49
    have N49 := Fr.app N44 Nq49
    have f50 : Old Z n0 T49.heap := f45.keep Kq49 all0
    have f51 : Exa Z T49.heap b26 "java/lang/String" := f46.keep Kq49
    have f52 : Exa Z T49.heap b28 "java/lang/String" := f47.keep Kq49
    have f53 : Exa Z T49.heap b31 "com/example/pacelint/pacelint/io/XmlElement" := r44_0.keep Kq49
    have f54 : Fld Z T49.heap b31 "com/example/pacelint/pacelint/io/XmlElement" "namespace" "Ljava/lang/String;" (.ref b26) := r44_1.keep Kq49 nin0
    have f55 : Fld Z T49.heap b31 "com/example/pacelint/pacelint/io/XmlElement" "localName" "Ljava/lang/String;" (.ref b28) := r44_2.keep Kq49 nin0
    have Zs49 : n0 ≤ T49.heap.size := Nat.le_trans Zs44 Kq49.1
    have K49_0 : Keep h0 T49.heap [] := K44_0.trans Kq49 all0
    have KS49 : Keep T49.heap T49.heap [] := Keep.refl _ _
    refine own_trW st49 ?_
    show own_GW _ _ _ (T49.setTop (mkF m 56 #[.val (.int p0), .val (.int p1), .val (.int p2), .val (.int p3), .val (.int p4), .val (.int (p0 &&& (3 : Int32))), .val (.ref b26), .val (.ref b28), .val (.ref b31), .unset] [(.ref a49)])) _ _ _ _ _ _
    refine own_goW (fun _ k => XS.astore X49.here hx rfl (hb hby at_56) rfl rfl (l' := #[.val (.int p0), .val (.int p1), .val (.int p2), .val (.int p3), .val (.int p4), .val (.int (p0 &&& (3 : Int32))), .val (.ref b26), .val (.ref b28), .val (.ref b31), .val (.ref a49)]) rfl k) ?_
    show own_GW _ _ _ (T49.setTop (mkF m 58 #[.val (.int p0), .val (.int p1), .val (.int p2), .val (.int p3), .val (.int p4), .val (.int (p0 &&& (3 : Int32))), .val (.ref b26), .val (.ref b28), .val (.ref b31), .val (.ref a49)] [])) _ _ _ _ _ _
    refine own_goW (fun _ k => XS.aload X49.here hx rfl (hb hby at_58) rfl rfl k) ?_
    show own_GW _ _ _ (T49.setTop (mkF m 60 #[.val (.int p0), .val (.int p1), .val (.int p2), .val (.int p3), .val (.int p4), .val (.int (p0 &&& (3 : Int32))), .val (.ref b26), .val (.ref b28), .val (.ref b31), .val (.ref a49)] [(.ref a49)])) _ _ _ _ _ _
    refine own_goW (fun _ k => XS.ifnonnullYes X49.here hx rfl (pc0 := 60) (pc' := 65) rfl (hb hby at_60) rfl (by decide) (by decide) k) ?_
    show own_GW _ _ _ (T49.setTop (mkF m 65 #[.val (.int p0), .val (.int p1), .val (.int p2), .val (.int p3), .val (.int p4), .val (.int (p0 &&& (3 : Int32))), .val (.ref b26), .val (.ref b28), .val (.ref b31), .val (.ref a49)] [])) _ _ _ _ _ _
    refine own_goW (fun _ k => XS.aload X49.here hx rfl (hb hby at_65) rfl rfl k) ?_
    show own_GW _ _ _ (T49.setTop (mkF m 67 #[.val (.int p0), .val (.int p1), .val (.int p2), .val (.int p3), .val (.int p4), .val (.int (p0 &&& (3 : Int32))), .val (.ref b26), .val (.ref b28), .val (.ref b31), .val (.ref a49)] [(.ref b26)])) _ _ _ _ _ _
    refine own_goW (fun _ k => XS.ifnonnullYes X49.here hx rfl (pc0 := 67) (pc' := 99) rfl (hb hby at_67) rfl (by decide) (by decide) k) ?_
    show own_GW _ _ _ (T49.setTop (mkF m 99 #[.val (.int p0), .val (.int p1), .val (.int p2), .val (.int p3), .val (.int p4), .val (.int (p0 &&& (3 : Int32))), .val (.ref b26), .val (.ref b28), .val (.ref b31), .val (.ref a49)] [])) _ _ _ _ _ _
    refine own_goW (fun _ k => XS.aload X49.here hx rfl (hb hby at_99) rfl rfl k) ?_
    show own_GW _ _ _ (T49.setTop (mkF m 101 #[.val (.int p0), .val (.int p1), .val (.int p2), .val (.int p3), .val (.int p4), .val (.int (p0 &&& (3 : Int32))), .val (.ref b26), .val (.ref b28), .val (.ref b31), .val (.ref a49)] [(.ref a49)])) _ _ _ _ _ _
    obtain ⟨cq56, kq56, q56a, q56b, q56c⟩ := isOf hZ rfl r49_0
    obtain ⟨_, _, ⟨T56, L56, k56, n56⟩, -, X56, ⟨Lc56, hQ56, l56, y56, z56⟩, st56⟩ := X49.virtualBack hx (y := (⟨"java/lang/String", "isEmpty", "()Z"⟩ : MethodName)) (z := (⟨"java/lang/String", "isEmpty", "()Z"⟩ : MethodName)) hown (mvT hZ (hw _ (List.mem_of_getElem? (i := 78) rfl))) (mvT hZ (hw _ (List.mem_of_getElem? (i := 79) rfl))) (notFace_of_selects (args := #[]) (mvT hZ (hw _ (List.mem_of_getElem? (i := 81) rfl)))) (mvT hZ (hw _ (List.mem_of_getElem? (i := 81) rfl))) (mvT hZ (hw _ (List.mem_of_getElem? (i := 80) rfl))) (by decide) (backOf (W := 0) (rm13 l Z a0 hw [] a49 t49 kt49 T49.heap n0 Zs49 r49_1 r49_2) hZ (hw _ (List.mem_of_getElem? (i := 82) rfl)) (hw _ (List.mem_of_getElem? (i := 5) rfl)) (by decide) (by decide)) q56a q56c (g := (mkF m 101 #[.val (.int p0), .val (.int p1), .val (.int p2), .val (.int p3), .val (.int p4), .val (.int (p0 &&& (3 : Int32))), .val (.ref b26), .val (.ref b28), .val (.ref b31), .val (.ref a49)] [(.ref a49)])) rfl (by rw [hml]; rfl) (Steps.refl _) (argsL := []) (rest := []) (lenOf pd_10 rfl) rfl (by show 2 * 0 + _ ≤ _; exact Nat.le_of_eq rfl) (hb hby at_101) (fun _ _ => ⟨rfl, rfl, (by decide : 11 + 0 ≤ _), (by decide : 31 + 0 ≤ _)⟩)
    dsimp only [Pt.U, Pt.locs, Pt.cells, Pt.slots] at X56 l56 y56 z56 st56 hQ56
    subst l56 y56 z56
    obtain ⟨rfl, Nq56, eh56⟩ := hQ56
    have N56 := Fr.app N49 Nq56
    refine own_trW st56 ?_
    show own_GW _ _ _ (T56.setTop (mkF m 104 #[.val (.int p0), .val (.int p1), .val (.int p2), .val (.int p3), .val (.int p4), .val (.int (p0 &&& (3 : Int32))), .val (.ref b26), .val (.ref b28), .val (.ref b31), .val (.ref a49)] [(.int (1 : Int32))])) _ _ _ _ _ _
    have CQ57 := CR49.trans (CHr.keep KS49 all0 CR49.1)
    have CE57 : CHr Z own_EL s.vm s.heap T56.vm T56.heap := by rw [hh, show T56.heap = T49.heap from eh56]; exact CQ57.trans (CHv.at X56 hZ (own_EW hw) CQ57.1)
    exact own_endWN X56 hx hlk (t := .boolean) Bd.returns (by simp) (hb hby at_104) hS49 (show _ ≤ T56.heap.size by rw [show T56.heap = T49.heap from eh56]; exact (Nat.le_trans (Nat.le_refl _) KS49.1)) (by decide) (by decide) CE57 (Q := (Q0 Z p0 p1 p2 p3 p4 zc el h0 n0)) (by rw [eh56]; exact ⟨rfl, N56, K49_0⟩)
set_option maxRecDepth 65536 in
set_option maxHeartbeats 40000000 in
theorem comes_1 {Post : Tables → Env → Array Value → State → Outcome → State → Prop} (hpost : ∀ tb e args s v u, (limb_1_1.after args s (.returned v) u = true ∧ limb_1_2.after args s (.returned v) u = true ∧ True) → ReturnedEndW s (.returned v) u (Jvm.fieldLocs frame_1_writes args s ++ Jvm.arrayLocs frame_1_arrays args s ++ Jvm.staticLocs frame_1_statics s) 32 2176 → Post tb e args s (.returned v) u) :
    ArmFor flags0 classFile x code maxLocals ret World_1 tables_1 room_1 Calls_1 rest_1 Pre_1 Post := by
  intro l hfl _ _ p e ha hc hk s m args below hf hA hF happ hP
  obtain ⟨hcalls, hrest, hpre⟩ := hP
  obtain ⟨-, -, -, hnamed, -, -, -, hat⟩ := (Spec.applies_iff hf).mp happ
  obtain ⟨hg, hn⟩ := and_e (Cond.before_iff.mp (show (Jvm.Cond.and given_1 narrow_1).before args s = true from hpre))
  obtain ⟨g0, hg1⟩ := and_e hg
  obtain ⟨a0, r0⟩ := and_e hg1
  obtain ⟨a1, r1⟩ := and_e r0
  obtain ⟨a2, r2⟩ := and_e r1
  obtain ⟨a3, r3⟩ := and_e r2
  obtain ⟨w0, w1, w2, w3, w4, rfl⟩ : ∃ w0 w1 w2 w3 w4 : Value, args = #[w0, w1, w2, w3, w4] := by
    have hs : args.size = 5 := by simpa [Cond.value, given_1] using g0
    obtain ⟨L⟩ := args
    match L, hs with
    | [w0, w1, w2, w3, w4], _ => exact ⟨w0, w1, w2, w3, w4, rfl⟩
  have hw := fun d (hd : d ∈ tables_1) => atoms_spec (ws := Jvm.Cond.code x code maxLocals ret :: tables_1) hat d (List.mem_cons_of_mem _ hd)
  have hfit : Fit s := fun {y c} hc i hi => by
    obtain ⟨ha, rfl⟩ := Array.getElem?_eq_some_iff.mp hc
    have q := List.all_eq_true.mp ((Array.all_eq_true_iff_forall_mem.mp hF) _ (Array.getElem_mem ha)) i (List.mem_range.mpr hi)
    simpa [Array.getElem?_eq_getElem hi] using q
  obtain ⟨i0, ei0⟩ := is_v a0
  obtain rfl : w0 = (.int i0) := Option.some.inj ei0
  obtain ⟨i1, ei1⟩ := is_v a1
  obtain rfl : w1 = (.int i1) := Option.some.inj ei1
  obtain ⟨i2, ei2⟩ := is_v a2
  obtain rfl : w2 = (.int i2) := Option.some.inj ei2
  obtain ⟨i3, ei3⟩ := is_v a3
  obtain rfl : w3 = (.int i3) := Option.some.inj ei3
  obtain ⟨i4, ei4⟩ := is_v r3
  obtain rfl : w4 = (.int i4) := Option.some.inj ei4
  obtain ⟨hsets, hown0⟩ := atoms_of _ (rest_1_c_eq ▸ (show rest_1_c.before _ s = true from hrest))
  have n5 := not_v (Cond.before_iff.mp (hsets _ (List.mem_of_getElem? (i := 9) rfl)))
  obtain ⟨zc, ez⟩ := is_v (Cond.before_iff.mp (hsets _ (List.mem_of_getElem? (i := 8) rfl)))
  have SZ : Sta s s.heap "java/lang/String" "COMPACT_STRINGS" "Z" (.int zc) := Sta.start ez (Or.inl (hsets _ (List.mem_of_getElem? (i := 7) rfl)))
  have hz : ¬ (zc = (0 : Int32)) := gotF (Cond.eq_ints ez (Term.int_eval (0))) n5
  obtain ⟨el, eel⟩ := exa_v (Cond.before_iff.mp (hsets _ (List.mem_of_getElem? (i := 2) rfl)))
  have SE := Sta.start eel (Or.inl (hsets _ (List.mem_of_getElem? (i := 1) rfl)))
  obtain ⟨hcl, -⟩ := hcalls
  have hCH : CHv s own_EL s.vm s.heap := CHv.start (own_EW hw) (fun p hp => hcl p hp) (hsets _ (List.mem_of_getElem? (i := 9) rfl)) (hw _ (List.mem_of_getElem? (i := 7) rfl)) (hw _ (List.mem_of_getElem? (i := 6) rfl))
  obtain ⟨n, o, h1, h2, h3, _, L, rfl, ⟨rfl, N, -⟩, -, hq⟩ := rm0 l s _ hw tables_1 i0 i1 i2 i3 i4 zc el s.heap s.heap.size (Nat.le_refl _) (Old.start s) SZ hz SE p e ha hc hk s m _ below hf ((Spec.applies_iff_loose hf).mp happ).1 ⟨rfl, State.Warmed39.refl s, rfl, hCH⟩ trivial
  refine ⟨n, _, h1, h2, h3, hpost _ _ _ _ _ _ ⟨Cond.after_iff.mpr rfl, Cond.after_iff.mpr (eq_i res_at (Term.int_eval (1)) (rfl)), trivial⟩ ⟨hq.1, hq.2.1, hq.2.2.1, (hq.2.2.2.sift fun y hy => Or.inr (N y hy)).mono (by decide) (by decide)⟩⟩
theorem main_1_1 : Claimed_1_1 := comes_1 fun _ _ _ _ _ _ h hF => ⟨h.1, hF⟩
theorem main_1_2 : Claimed_1_2 := comes_1 fun _ _ _ _ _ _ h hF => ⟨h.2.1, hF⟩
end Jvm.Pilot.@@N@@
namespace Jvm.Pilot.@@N@@
open Jvm Jvm.ClassFile Sem Op Lib Jvm.Free Jvm.Stand Jvm.Pilot.@@N@@.Jvm.D
/-! MADE BY PROGRAM (witnessworld.py) out of the Statement's table words and the real class files: 31 classes; the members and pool entries that the words name. The judged class is class 1, her method 2. -/
namespace start1
open Jvm.ClassFile
def u (s : String) : CpInfo := .utf8 (stringToUtf16 s)
/-- a pool by its gaps: so many unusable entries, then the entry; so many at the end -/
def gap : Nat → List CpInfo → List CpInfo
  | 0, r => r
  | n + 1, r => .unusable :: gap n r
def poolList (es : List (Nat × CpInfo)) (last : Nat) : List CpInfo := es.foldr (fun e r => gap e.1 (e.2 :: r)) (gap last [])
def pool (es : List (Nat × CpInfo)) (last : Nat) : Array CpInfo := ⟨poolList es last⟩
def fileOf (pool : Array CpInfo) (this : Nat) (attrs : Array Attribute := #[]) (ms : Array MethodInfo := #[]) (fl : Nat := 33) (sup : Nat := 0) (ifs : Array Nat := #[]) (fds : Array FieldInfo := #[]) : ClassFile where
  minorVersion := 0
  majorVersion := 65
  constantPool := pool
  accessFlags := fl
  thisClass := this
  superClass := sup
  interfaces := ifs
  fields := fds
  methods := ms
  attributes := attrs
def plain (name : String) (sup : Option ClassId) : Class where
  name := name
  kind := .ordinary
  loader := none
  accessFlags := 33
  super := sup
  interfaces := #[]
  cf := none
  fields := #[]
  methods := #[]
  instanceTypes := #[]
  staticTypes := #[]
  resolved := #[]
  callSites := []
  init := .initialized
  statics := none
  mirror := none

def pool0 : Array CpInfo := pool [(5, u "<init>"), (0, u "()V"), (1, .class_ 10), (1, u "java/lang/Object")] 113

def k0c0 : Code := { maxStack := 0, maxLocals := 1, code := object_method_1_code, exceptionTable := #[], attributes := #[] }
def k0m0 : Method := { name := "<init>", desc := "()V", sig := { parameters := [], returnType := none }, accessFlags := 1, code := some k0c0 }
/-- java/lang/Object -/
def k0 : Class := { plain "java/lang/Object" none with
  accessFlags := 33
  interfaces := #[]
  cf := some (fileOf pool0 8 #[] #[{ accessFlags := 1, nameIndex := 5, descriptorIndex := 6, attributes := #[] }] 33 0 #[] #[])
  fields := #[]
  methods := #[k0m0]
  instanceTypes := #[]
  staticTypes := #[]
  resolved := Array.replicate 124 none
  statics := none }

def pool1 : Array CpInfo := pool [(2, .class_ 4), (1, u "java/lang/Object"), (0, u "<init>"), (0, u "()V"), (0, .string 8), (0, u ""), (0, .methodref 10 11), (0, .class_ 12), (0, .nameAndType 13 14), (0, u "java/lang/String"), (0, u "valueOf"), (0, u "(C)Ljava/lang/String;"), (0, .methodref 10 16), (0, .nameAndType 5 17), (0, u "([C)V"), (0, .methodref 19 20), (0, .class_ 21), (0, .nameAndType 22 23), (0, u "com/example/pacelint/pacelint/io/XmlElementAutosarNamePinLaw"), (0, u "draw"), (0, u "(III)Ljava/lang/String;"), (0, .class_ 25), (0, u "com/example/pacelint/pacelint/io/XmlElement"), (0, .methodref 24 27), (0, .nameAndType 5 28), (0, u "(Ljava/lang/String;Ljava/lang/String;Lcom/example/pacelint/pacelint/model/Location;Ljava/util/Map;)V"), (0, .methodref 24 30), (0, .nameAndType 31 32), (0, u "autosarName"), (0, u "()Ljava/lang/String;"), (0, .methodref 10 34), (0, .nameAndType 35 36), (0, u "equals"), (0, u "(Ljava/lang/Object;)Z"), (0, .methodref 24 38), (0, .nameAndType 39 32), (0, u "name"), (0, .methodref 10 41), (0, .nameAndType 42 43), (0, u "isEmpty"), (0, u "()Z"), (3, u "law"), (0, u "(IIIII)Z")] 2

def k1m0 : Method := { name := "<init>", desc := "()V", sig := { parameters := [], returnType := none }, accessFlags := 1, code := none }
def k1c1 : Code := { maxStack := 7, maxLocals := 4, code := method_2_code, exceptionTable := #[], attributes := #[] }
def k1m1 : Method := { name := "draw", desc := "(III)Ljava/lang/String;", sig := { parameters := [.int, .int, .int], returnType := some (.object "java/lang/String") }, accessFlags := 10, code := some k1c1 }
def k1c2 : Code := { maxStack := 6, maxLocals := 10, code := code, exceptionTable := #[], attributes := #[] }
def k1m2 : Method := { name := "law", desc := "(IIIII)Z", sig := { parameters := [.int, .int, .int, .int, .int], returnType := some .boolean }, accessFlags := 9, code := some k1c2 }
/-- com/example/pacelint/pacelint/io/XmlElementAutosarNamePinLaw -/
def k1 : Class := { plain "com/example/pacelint/pacelint/io/XmlElementAutosarNamePinLaw" (some 0) with
  accessFlags := 49
  interfaces := #[]
  cf := some (fileOf pool1 19 #[] #[{ accessFlags := 1, nameIndex := 5, descriptorIndex := 6, attributes := #[] }, { accessFlags := 10, nameIndex := 22, descriptorIndex := 23, attributes := #[] }, { accessFlags := 9, nameIndex := 47, descriptorIndex := 48, attributes := #[] }] 49 2 #[] #[])
  fields := #[]
  methods := #[k1m0, k1m1, k1m2]
  instanceTypes := #[]
  staticTypes := #[]
  resolved := Array.replicate 51 none
  statics := none }

def pool2 : Array CpInfo := pool [(1, .class_ 2), (0, u "java/io/Serializable"), (0, .class_ 4), (0, u "java/lang/Object")] 2

/-- java/io/Serializable -/
def k2 : Class := { plain "java/io/Serializable" (some 0) with
  accessFlags := 1537
  interfaces := #[]
  cf := some (fileOf pool2 1 #[] #[] 1537 3 #[] #[])
  fields := #[]
  methods := #[]
  instanceTypes := #[]
  staticTypes := #[]
  resolved := Array.replicate 7 none
  statics := none }

def pool3 : Array CpInfo := pool [(1, .class_ 2), (0, u "java/lang/Comparable"), (0, .class_ 4), (0, u "java/lang/Object")] 7

/-- java/lang/Comparable -/
def k3 : Class := { plain "java/lang/Comparable" (some 0) with
  accessFlags := 1537
  interfaces := #[]
  cf := some (fileOf pool3 1 #[] #[] 1537 3 #[] #[])
  fields := #[]
  methods := #[]
  instanceTypes := #[]
  staticTypes := #[]
  resolved := Array.replicate 12 none
  statics := none }

def pool4 : Array CpInfo := pool [(2, .class_ 4), (1, u "java/lang/CharSequence"), (42, .class_ 48), (0, u "java/lang/CharSequence$1CodePointIterator"), (10, .class_ 60), (0, u "java/lang/CharSequence$1CharIterator"), (5, .class_ 67), (0, u "java/lang/Object")] 63

/-- java/lang/CharSequence -/
def k4 : Class := { plain "java/lang/CharSequence" (some 0) with
  accessFlags := 1537
  interfaces := #[]
  cf := some (fileOf pool4 2 #[.nestMembers #[47, 59]] #[] 1537 66 #[] #[])
  fields := #[]
  methods := #[]
  instanceTypes := #[]
  staticTypes := #[]
  resolved := Array.replicate 131 none
  statics := none }

def pool5 : Array CpInfo := pool [(1, .class_ 2), (0, u "java/lang/constant/Constable"), (0, .class_ 4), (0, u "java/lang/Object")] 6

/-- java/lang/constant/Constable -/
def k5 : Class := { plain "java/lang/constant/Constable" (some 0) with
  accessFlags := 1537
  interfaces := #[]
  cf := some (fileOf pool5 1 #[] #[] 1537 3 #[] #[])
  fields := #[]
  methods := #[]
  instanceTypes := #[]
  staticTypes := #[]
  resolved := Array.replicate 11 none
  statics := none }

def pool6 : Array CpInfo := pool [(1, .class_ 2), (0, u "java/lang/constant/ConstantDesc"), (0, .class_ 4), (0, u "java/lang/Object")] 32

/-- java/lang/constant/ConstantDesc -/
def k6 : Class := { plain "java/lang/constant/ConstantDesc" (some 0) with
  accessFlags := 1537
  interfaces := #[]
  cf := some (fileOf pool6 1 #[] #[] 1537 3 #[] #[])
  fields := #[]
  methods := #[]
  instanceTypes := #[]
  staticTypes := #[]
  resolved := Array.replicate 37 none
  statics := none }

def pool7 : Array CpInfo := pool [(1, .methodref 2 3), (0, .class_ 4), (0, .nameAndType 5 6), (0, u "java/lang/Object"), (0, u "<init>"), (0, u "()V"), (2, .fieldref 10 11), (0, .class_ 12), (0, .nameAndType 13 14), (0, u "java/lang/String"), (0, u "value"), (0, u "[B"), (0, .fieldref 10 16), (0, .nameAndType 17 18), (0, u "coder"), (0, u "B"), (2, u "hash"), (0, u "I"), (2, u "hashIsZero"), (0, u "Z"), (0, .methodref 10 28), (0, .nameAndType 5 29), (0, u "([CIILjava/lang/Void;)V"), (8, .fieldref 10 39), (0, .nameAndType 40 26), (0, u "COMPACT_STRINGS"), (1, .class_ 44), (1, u "java/lang/StringUTF16"), (0, u "compress"), (1, .methodref 42 48), (0, .nameAndType 49 50), (0, u "coderFromArrayLen"), (0, u "([BI)B"), (2, u "toBytes"), (53, .class_ 109), (1, u "java/lang/StringLatin1"), (32, u "()Z"), (34, .methodref 42 178), (0, .nameAndType 45 179), (0, u "([CII)[B"), (29, .methodref 10 210), (0, .nameAndType 5 211), (0, u "([BB)V"), (157, u "(C)Z"), (173, u "equals"), (29, u "(Ljava/lang/Object;)Z"), (1, .class_ 576), (0, u "java/lang/CharSequence"), (22, u "CASE_INSENSITIVE_ORDER"), (0, u "Ljava/util/Comparator;"), (91, u "isEmpty"), (89, u "valueOf"), (0, u "(C)Ljava/lang/String;"), (226, u "([C)V"), (4, .methodref 107 1016), (0, .nameAndType 1017 369), (0, u "canEncode"), (0, .methodref 107 1019), (0, .nameAndType 53 1020), (0, u "(C)[B"), (80, u "serialPersistentFields"), (0, u "[Ljava/io/ObjectStreamField;"), (0, .class_ 1104), (0, u "java/lang/String$CaseInsensitiveComparator"), (1, .class_ 1107), (0, u "java/io/Serializable"), (0, .class_ 1109), (0, u "java/lang/Comparable"), (0, .class_ 1111), (0, u "java/lang/constant/Constable"), (0, .class_ 1113), (0, u "java/lang/constant/ConstantDesc"), (2, u "serialVersionUID"), (0, u "J"), (3, u "REPL"), (0, u "C"), (2, u "LATIN1"), (1, u "UTF16")] 323

def k7m0 : Method := { name := "<init>", desc := "()V", sig := { parameters := [], returnType := none }, accessFlags := 1, code := none }
def k7c1 : Code := { maxStack := 5, maxLocals := 2, code := jdk_42_method_3_code, exceptionTable := #[], attributes := #[] }
def k7m1 : Method := { name := "<init>", desc := "([C)V", sig := { parameters := [(.array .char)], returnType := none }, accessFlags := 1, code := some k7c1 }
def k7c2 : Code := { maxStack := 1, maxLocals := 1, code := jdk_42_method_55_code, exceptionTable := #[], attributes := #[] }
def k7m2 : Method := { name := "isEmpty", desc := "()Z", sig := { parameters := [], returnType := some .boolean }, accessFlags := 1, code := some k7c2 }
def k7c3 : Code := { maxStack := 2, maxLocals := 3, code := jdk_42_method_66_code, exceptionTable := #[], attributes := #[] }
def k7m3 : Method := { name := "equals", desc := "(Ljava/lang/Object;)Z", sig := { parameters := [(.object "java/lang/Object")], returnType := some .boolean }, accessFlags := 1, code := some k7c3 }
def k7c4 : Code := { maxStack := 4, maxLocals := 1, code := jdk_42_method_139_code, exceptionTable := #[], attributes := #[] }
def k7m4 : Method := { name := "valueOf", desc := "(C)Ljava/lang/String;", sig := { parameters := [.char], returnType := some (.object "java/lang/String") }, accessFlags := 9, code := some k7c4 }
def k7c5 : Code := { maxStack := 4, maxLocals := 6, code := jdk_42_method_149_code, exceptionTable := #[], attributes := #[] }
def k7m5 : Method := { name := "<init>", desc := "([CIILjava/lang/Void;)V", sig := { parameters := [(.array .char), .int, .int, (.object "java/lang/Void")], returnType := none }, accessFlags := 2, code := some k7c5 }
def k7c6 : Code := { maxStack := 2, maxLocals := 3, code := jdk_42_method_151_code, exceptionTable := #[], attributes := #[] }
def k7m6 : Method := { name := "<init>", desc := "([BB)V", sig := { parameters := [(.array .byte), .byte], returnType := none }, accessFlags := 0, code := some k7c6 }
/-- java/lang/String -/
def k7 : Class := { plain "java/lang/String" (some 0) with
  accessFlags := 49
  interfaces := #[2, 3, 4, 5, 6]
  cf := some (fileOf pool7 10 #[.nestMembers #[1103]] #[{ accessFlags := 1, nameIndex := 5, descriptorIndex := 6, attributes := #[] }, { accessFlags := 1, nameIndex := 5, descriptorIndex := 1010, attributes := #[] }, { accessFlags := 1, nameIndex := 692, descriptorIndex := 142, attributes := #[] }, { accessFlags := 1, nameIndex := 543, descriptorIndex := 573, attributes := #[] }, { accessFlags := 9, nameIndex := 782, descriptorIndex := 783, attributes := #[] }, { accessFlags := 2, nameIndex := 5, descriptorIndex := 29, attributes := #[] }, { accessFlags := 0, nameIndex := 5, descriptorIndex := 211, attributes := #[] }] 49 2 #[1106, 1108, 575, 1110, 1112] #[{ accessFlags := 18, nameIndex := 13, descriptorIndex := 14, attributes := #[] }, { accessFlags := 18, nameIndex := 17, descriptorIndex := 18, attributes := #[] }, { accessFlags := 2, nameIndex := 21, descriptorIndex := 22, attributes := #[] }, { accessFlags := 2, nameIndex := 25, descriptorIndex := 26, attributes := #[] }, { accessFlags := 26, nameIndex := 1116, descriptorIndex := 1117, attributes := #[] }, { accessFlags := 24, nameIndex := 40, descriptorIndex := 26, attributes := #[] }, { accessFlags := 26, nameIndex := 1101, descriptorIndex := 1102, attributes := #[] }, { accessFlags := 26, nameIndex := 1121, descriptorIndex := 1122, attributes := #[] }, { accessFlags := 25, nameIndex := 599, descriptorIndex := 600, attributes := #[] }, { accessFlags := 24, nameIndex := 1125, descriptorIndex := 18, attributes := #[] }, { accessFlags := 24, nameIndex := 1127, descriptorIndex := 18, attributes := #[] }])
  fields := #[{ name := "value", type := (.array .byte), accessFlags := 18, slot := 0, constantValue := 0 }, { name := "coder", type := .byte, accessFlags := 18, slot := 1, constantValue := 0 }, { name := "hash", type := .int, accessFlags := 2, slot := 2, constantValue := 0 }, { name := "hashIsZero", type := .boolean, accessFlags := 2, slot := 3, constantValue := 0 }, { name := "serialVersionUID", type := .long, accessFlags := 26, slot := 0, constantValue := 0 }, { name := "COMPACT_STRINGS", type := .boolean, accessFlags := 24, slot := 1, constantValue := 0 }, { name := "serialPersistentFields", type := (.array (.object "java/io/ObjectStreamField")), accessFlags := 26, slot := 2, constantValue := 0 }, { name := "REPL", type := .char, accessFlags := 26, slot := 3, constantValue := 0 }, { name := "CASE_INSENSITIVE_ORDER", type := (.object "java/util/Comparator"), accessFlags := 25, slot := 4, constantValue := 0 }, { name := "LATIN1", type := .byte, accessFlags := 24, slot := 5, constantValue := 0 }, { name := "UTF16", type := .byte, accessFlags := 24, slot := 6, constantValue := 0 }]
  methods := #[k7m0, k7m1, k7m2, k7m3, k7m4, k7m5, k7m6]
  instanceTypes := #[(.array .byte), .byte, .int, .boolean]
  staticTypes := #[.long, .boolean, (.array (.object "java/io/ObjectStreamField")), .char, (.object "java/util/Comparator"), .byte, .byte]
  resolved := Array.replicate 1451 none
  statics := some 0 }

def pool8 : Array CpInfo := pool [(1, .methodref 2 3), (0, .class_ 4), (0, .nameAndType 5 6), (0, u "java/lang/Object"), (0, u "<init>"), (0, u "()V"), (0, .interfaceMethodref 8 9), (0, .class_ 10), (0, .nameAndType 11 12), (0, u "java/util/List"), (0, u "of"), (0, u "()Ljava/util/List;"), (0, .fieldref 14 15), (0, .class_ 16), (0, .nameAndType 17 18), (0, u "com/example/pacelint/pacelint/io/XmlElement"), (0, u "children"), (0, u "Ljava/util/List;"), (0, .string 20), (0, u ""), (0, .fieldref 14 22), (0, .nameAndType 23 24), (0, u "text"), (0, u "Ljava/lang/String;"), (0, .fieldref 14 26), (0, .nameAndType 27 24), (0, u "namespace"), (0, .fieldref 14 29), (0, .nameAndType 30 24), (0, u "localName"), (0, .fieldref 14 32), (0, .nameAndType 33 34), (0, u "location"), (0, u "Lcom/example/pacelint/pacelint/model/Location;"), (0, .fieldref 14 36), (0, .nameAndType 37 38), (0, u "attributes"), (0, u "Ljava/util/Map;"), (15, u "()Ljava/lang/String;"), (2, u "path"), (0, u "Lcom/example/pacelint/pacelint/io/ArxmlPath;"), (26, u "autosarName"), (19, u "name"), (4, u "(Ljava/lang/String;Ljava/lang/String;Lcom/example/pacelint/pacelint/model/Location;Ljava/util/Map;)V")] 42

def k8c0 : Code := { maxStack := 2, maxLocals := 5, code := prog_56_method_1_code, exceptionTable := #[], attributes := #[] }
def k8m0 : Method := { name := "<init>", desc := "(Ljava/lang/String;Ljava/lang/String;Lcom/example/pacelint/pacelint/model/Location;Ljava/util/Map;)V", sig := { parameters := [(.object "java/lang/String"), (.object "java/lang/String"), (.object "com/example/pacelint/pacelint/model/Location"), (.object "java/util/Map")], returnType := none }, accessFlags := 0, code := some k8c0 }
def k8c1 : Code := { maxStack := 2, maxLocals := 1, code := prog_56_method_2_code, exceptionTable := #[], attributes := #[] }
def k8m1 : Method := { name := "name", desc := "()Ljava/lang/String;", sig := { parameters := [], returnType := some (.object "java/lang/String") }, accessFlags := 0, code := some k8c1 }
def k8c2 : Code := { maxStack := 1, maxLocals := 1, code := prog_56_method_3_code, exceptionTable := #[], attributes := #[] }
def k8m2 : Method := { name := "autosarName", desc := "()Ljava/lang/String;", sig := { parameters := [], returnType := some (.object "java/lang/String") }, accessFlags := 0, code := some k8c2 }
/-- com/example/pacelint/pacelint/io/XmlElement -/
def k8 : Class := { plain "com/example/pacelint/pacelint/io/XmlElement" (some 0) with
  accessFlags := 32
  interfaces := #[]
  cf := some (fileOf pool8 14 #[] #[{ accessFlags := 0, nameIndex := 5, descriptorIndex := 110, attributes := #[] }, { accessFlags := 0, nameIndex := 105, descriptorIndex := 54, attributes := #[] }, { accessFlags := 0, nameIndex := 85, descriptorIndex := 54, attributes := #[] }] 32 2 #[] #[{ accessFlags := 18, nameIndex := 27, descriptorIndex := 24, attributes := #[] }, { accessFlags := 18, nameIndex := 30, descriptorIndex := 24, attributes := #[] }, { accessFlags := 18, nameIndex := 33, descriptorIndex := 34, attributes := #[] }, { accessFlags := 18, nameIndex := 37, descriptorIndex := 38, attributes := #[] }, { accessFlags := 2, nameIndex := 17, descriptorIndex := 18, attributes := #[] }, { accessFlags := 2, nameIndex := 23, descriptorIndex := 24, attributes := #[] }, { accessFlags := 2, nameIndex := 57, descriptorIndex := 58, attributes := #[] }])
  fields := #[{ name := "namespace", type := (.object "java/lang/String"), accessFlags := 18, slot := 0, constantValue := 0 }, { name := "localName", type := (.object "java/lang/String"), accessFlags := 18, slot := 1, constantValue := 0 }, { name := "location", type := (.object "com/example/pacelint/pacelint/model/Location"), accessFlags := 18, slot := 2, constantValue := 0 }, { name := "attributes", type := (.object "java/util/Map"), accessFlags := 18, slot := 3, constantValue := 0 }, { name := "children", type := (.object "java/util/List"), accessFlags := 2, slot := 4, constantValue := 0 }, { name := "text", type := (.object "java/lang/String"), accessFlags := 2, slot := 5, constantValue := 0 }, { name := "path", type := (.object "com/example/pacelint/pacelint/io/ArxmlPath"), accessFlags := 2, slot := 6, constantValue := 0 }]
  methods := #[k8m0, k8m1, k8m2]
  instanceTypes := #[(.object "java/lang/String"), (.object "java/lang/String"), (.object "com/example/pacelint/pacelint/model/Location"), (.object "java/util/Map"), (.object "java/util/List"), (.object "java/lang/String"), (.object "com/example/pacelint/pacelint/io/ArxmlPath")]
  staticTypes := #[]
  resolved := Array.replicate 153 none
  statics := none }

def pool9 : Array CpInfo := pool [(8, .class_ 10), (1, u "java/lang/Iterable"), (24, .class_ 36), (0, u "java/lang/Object")] 25

/-- java/lang/Iterable -/
def k9 : Class := { plain "java/lang/Iterable" (some 0) with
  accessFlags := 1537
  interfaces := #[]
  cf := some (fileOf pool9 8 #[] #[] 1537 35 #[] #[])
  fields := #[]
  methods := #[]
  instanceTypes := #[]
  staticTypes := #[]
  resolved := Array.replicate 62 none
  statics := none }

def pool10 : Array CpInfo := pool [(10, .class_ 12), (1, u "java/util/Collection"), (47, .class_ 61), (0, u "java/lang/Object"), (0, .class_ 63), (0, u "java/lang/Iterable")] 51

/-- java/util/Collection -/
def k10 : Class := { plain "java/util/Collection" (some 0) with
  accessFlags := 1537
  interfaces := #[9]
  cf := some (fileOf pool10 10 #[] #[] 1537 60 #[62] #[])
  fields := #[]
  methods := #[]
  instanceTypes := #[]
  staticTypes := #[]
  resolved := Array.replicate 115 none
  statics := none }

def pool11 : Array CpInfo := pool [(8, .class_ 10), (1, u "java/util/SequencedCollection"), (15, .class_ 27), (0, u "java/lang/Object"), (0, .class_ 29), (0, u "java/util/Collection")] 27

/-- java/util/SequencedCollection -/
def k11 : Class := { plain "java/util/SequencedCollection" (some 0) with
  accessFlags := 1537
  interfaces := #[10]
  cf := some (fileOf pool11 8 #[] #[] 1537 26 #[28] #[])
  fields := #[]
  methods := #[]
  instanceTypes := #[]
  staticTypes := #[]
  resolved := Array.replicate 57 none
  statics := none }

def pool12 : Array CpInfo := pool [(8, .class_ 10), (1, u "java/util/List"), (77, u "of"), (1, .fieldref 91 92), (0, .class_ 93), (0, .nameAndType 94 95), (0, u "java/util/ImmutableCollections"), (0, u "EMPTY_LIST"), (0, u "Ljava/util/ImmutableCollections$ListN;"), (7, .class_ 104), (0, u "java/lang/Object"), (14, u "()Ljava/util/List;"), (0, .class_ 121), (0, u "java/util/SequencedCollection")] 129

def k12c0 : Code := { maxStack := 1, maxLocals := 0, code := jdk_40_method_36_code, exceptionTable := #[], attributes := #[] }
def k12m0 : Method := { name := "of", desc := "()Ljava/util/List;", sig := { parameters := [], returnType := some (.object "java/util/List") }, accessFlags := 9, code := some k12c0 }
/-- java/util/List -/
def k12 : Class := { plain "java/util/List" (some 0) with
  accessFlags := 1537
  interfaces := #[11]
  cf := some (fileOf pool12 8 #[] #[{ accessFlags := 9, nameIndex := 88, descriptorIndex := 119, attributes := #[] }] 1537 103 #[120] #[])
  fields := #[]
  methods := #[k12m0]
  instanceTypes := #[]
  staticTypes := #[]
  resolved := Array.replicate 251 none
  statics := none }

def pool13 : Array CpInfo := pool [(2, .class_ 4), (1, u "java/lang/Object"), (0, u "<init>"), (0, u "()V"), (3, .class_ 11), (0, u "java/util/ImmutableCollections$List12"), (0, .class_ 13), (0, u "java/util/ImmutableCollections$ListN"), (3, u "Z"), (29, .class_ 49), (1, u "java/util/ImmutableCollections"), (0, u "$assertionsDisabled"), (5, u "[Ljava/lang/Object;"), (5, u "EMPTY_LIST"), (0, u "Ljava/util/ImmutableCollections$ListN;"), (8, u "EMPTY_LIST_NULLS"), (22, u "SALT32L"), (0, u "J"), (2, u "REVERSE"), (6, u "archivedObjects"), (2, u "EMPTY"), (0, u "Ljava/lang/Object;"), (0, .class_ 112), (0, u "java/util/ImmutableCollections$SetN"), (5, u "EMPTY_SET"), (0, u "Ljava/util/ImmutableCollections$SetN;"), (0, .class_ 121), (0, u "java/util/ImmutableCollections$MapN"), (3, u "EMPTY_MAP"), (0, u "Ljava/util/ImmutableCollections$MapN;"), (4, u "EXPAND_FACTOR"), (0, u "I"), (36, .class_ 170), (0, u "java/util/ImmutableCollections$MapN$MapNIterator"), (0, .class_ 172), (0, u "java/util/ImmutableCollections$MapN$1"), (0, .class_ 174), (0, u "java/util/ImmutableCollections$Map1"), (0, .class_ 176), (0, u "java/util/ImmutableCollections$AbstractImmutableMap"), (0, .class_ 178), (0, u "java/util/ImmutableCollections$SetN$SetNIterator"), (0, .class_ 180), (0, u "java/util/ImmutableCollections$Set12"), (0, .class_ 182), (0, u "java/util/ImmutableCollections$Set12$1"), (0, .class_ 184), (0, u "java/util/ImmutableCollections$AbstractImmutableSet"), (0, .class_ 186), (0, u "java/util/ImmutableCollections$SubList"), (0, .class_ 188), (0, u "java/util/ImmutableCollections$ListItr"), (0, .class_ 190), (0, u "java/util/ImmutableCollections$AbstractImmutableList"), (0, .class_ 192), (0, u "java/util/ImmutableCollections$AbstractImmutableCollection"), (0, .class_ 194), (0, u "java/util/ImmutableCollections$Access"), (0, .class_ 196), (0, u "java/util/ImmutableCollections$Access$1")] 16

def k13m0 : Method := { name := "<init>", desc := "()V", sig := { parameters := [], returnType := none }, accessFlags := 2, code := none }
/-- java/util/ImmutableCollections -/
def k13 : Class := { plain "java/util/ImmutableCollections" (some 0) with
  accessFlags := 32
  interfaces := #[]
  cf := some (fileOf pool13 47 #[.nestMembers #[120, 169, 171, 173, 175, 111, 177, 179, 181, 183, 12, 10, 185, 187, 189, 191, 193, 195]] #[{ accessFlags := 2, nameIndex := 5, descriptorIndex := 6, attributes := #[] }] 32 2 #[] #[{ accessFlags := 26, nameIndex := 95, descriptorIndex := 96, attributes := #[] }, { accessFlags := 26, nameIndex := 99, descriptorIndex := 17, attributes := #[] }, { accessFlags := 10, nameIndex := 106, descriptorIndex := 56, attributes := #[] }, { accessFlags := 26, nameIndex := 109, descriptorIndex := 110, attributes := #[] }, { accessFlags := 24, nameIndex := 62, descriptorIndex := 63, attributes := #[] }, { accessFlags := 24, nameIndex := 72, descriptorIndex := 63, attributes := #[] }, { accessFlags := 24, nameIndex := 118, descriptorIndex := 119, attributes := #[] }, { accessFlags := 24, nameIndex := 125, descriptorIndex := 126, attributes := #[] }, { accessFlags := 24, nameIndex := 131, descriptorIndex := 132, attributes := #[] }, { accessFlags := 4120, nameIndex := 50, descriptorIndex := 17, attributes := #[] }])
  fields := #[{ name := "SALT32L", type := .long, accessFlags := 26, slot := 0, constantValue := 0 }, { name := "REVERSE", type := .boolean, accessFlags := 26, slot := 1, constantValue := 0 }, { name := "archivedObjects", type := (.array (.object "java/lang/Object")), accessFlags := 10, slot := 2, constantValue := 0 }, { name := "EMPTY", type := (.object "java/lang/Object"), accessFlags := 26, slot := 3, constantValue := 0 }, { name := "EMPTY_LIST", type := (.object "java/util/ImmutableCollections$ListN"), accessFlags := 24, slot := 4, constantValue := 0 }, { name := "EMPTY_LIST_NULLS", type := (.object "java/util/ImmutableCollections$ListN"), accessFlags := 24, slot := 5, constantValue := 0 }, { name := "EMPTY_SET", type := (.object "java/util/ImmutableCollections$SetN"), accessFlags := 24, slot := 6, constantValue := 0 }, { name := "EMPTY_MAP", type := (.object "java/util/ImmutableCollections$MapN"), accessFlags := 24, slot := 7, constantValue := 0 }, { name := "EXPAND_FACTOR", type := .int, accessFlags := 24, slot := 8, constantValue := 0 }, { name := "$assertionsDisabled", type := .boolean, accessFlags := 4120, slot := 9, constantValue := 0 }]
  methods := #[k13m0]
  instanceTypes := #[]
  staticTypes := #[.long, .boolean, (.array (.object "java/lang/Object")), (.object "java/lang/Object"), (.object "java/util/ImmutableCollections$ListN"), (.object "java/util/ImmutableCollections$ListN"), (.object "java/util/ImmutableCollections$SetN"), (.object "java/util/ImmutableCollections$MapN"), .int, .boolean]
  resolved := Array.replicate 213 none
  statics := some 1 }

def pool14 : Array CpInfo := pool [(6, .class_ 8), (1, u "java/lang/Object"), (0, u "<init>"), (0, u "()V"), (1, .class_ 14), (1, u "java/lang/StringUTF16"), (31, u "$assertionsDisabled"), (0, u "Z"), (13, u "HI_BYTE_SHIFT"), (0, u "I"), (2, u "LO_BYTE_SHIFT"), (49, .methodref 12 116), (0, .nameAndType 117 118), (0, u "compress"), (0, u "([CI[BII)I"), (3, u "([CII)[B"), (138, u "coderFromArrayLen"), (0, u "([BI)B"), (106, .class_ 371), (1, u "java/lang/StringUTF16$LinesSpliterator"), (58, u "MAX_LENGTH"), (196, .class_ 628), (0, u "java/lang/StringUTF16$CodePointsSpliterator"), (0, .class_ 630), (0, u "java/lang/StringUTF16$CharsSpliterator")] 4

def k14m0 : Method := { name := "<init>", desc := "()V", sig := { parameters := [], returnType := none }, accessFlags := 0, code := none }
def k14c1 : Code := { maxStack := 2, maxLocals := 2, code := jdk_52_method_15_code, exceptionTable := #[], attributes := #[] }
def k14m1 : Method := { name := "coderFromArrayLen", desc := "([BI)B", sig := { parameters := [(.array .byte), .int], returnType := some .byte }, accessFlags := 8, code := some k14c1 }
def k14c2 : Code := { maxStack := 5, maxLocals := 6, code := jdk_52_method_16_code, exceptionTable := #[], attributes := #[] }
def k14m2 : Method := { name := "compress", desc := "([CII)[B", sig := { parameters := [(.array .char), .int, .int], returnType := some (.array .byte) }, accessFlags := 9, code := some k14c2 }
def k14c3 : Code := { maxStack := 3, maxLocals := 7, code := jdk_52_method_21_code, exceptionTable := #[], attributes := #[] }
def k14m3 : Method := { name := "compress", desc := "([CI[BII)I", sig := { parameters := [(.array .char), .int, (.array .byte), .int, .int], returnType := some .int }, accessFlags := 9, code := some k14c3 }
/-- java/lang/StringUTF16 -/
def k14 : Class := { plain "java/lang/StringUTF16" (some 0) with
  accessFlags := 48
  interfaces := #[]
  cf := some (fileOf pool14 12 #[.nestMembers #[627, 629, 369]] #[{ accessFlags := 0, nameIndex := 9, descriptorIndex := 10, attributes := #[] }, { accessFlags := 8, nameIndex := 261, descriptorIndex := 262, attributes := #[] }, { accessFlags := 9, nameIndex := 117, descriptorIndex := 122, attributes := #[] }, { accessFlags := 9, nameIndex := 117, descriptorIndex := 118, attributes := #[] }] 48 6 #[] #[{ accessFlags := 26, nameIndex := 61, descriptorIndex := 62, attributes := #[] }, { accessFlags := 26, nameIndex := 65, descriptorIndex := 62, attributes := #[] }, { accessFlags := 24, nameIndex := 430, descriptorIndex := 62, attributes := #[] }, { accessFlags := 4120, nameIndex := 46, descriptorIndex := 47, attributes := #[] }])
  fields := #[{ name := "HI_BYTE_SHIFT", type := .int, accessFlags := 26, slot := 0, constantValue := 0 }, { name := "LO_BYTE_SHIFT", type := .int, accessFlags := 26, slot := 1, constantValue := 0 }, { name := "MAX_LENGTH", type := .int, accessFlags := 24, slot := 2, constantValue := 0 }, { name := "$assertionsDisabled", type := .boolean, accessFlags := 4120, slot := 3, constantValue := 0 }]
  methods := #[k14m0, k14m1, k14m2, k14m3]
  instanceTypes := #[]
  staticTypes := #[.int, .int, .int, .boolean]
  resolved := Array.replicate 635 none
  statics := none }

def pool15 : Array CpInfo := pool [(4, .class_ 6), (1, u "java/lang/Object"), (0, u "<init>"), (0, u "()V"), (5, .class_ 16), (1, u "java/lang/StringLatin1"), (73, u "canEncode"), (14, u "(C)Z"), (15, u "$assertionsDisabled"), (0, u "Z"), (98, .class_ 223), (1, u "java/lang/StringLatin1$LinesSpliterator"), (156, u "toBytes"), (1, u "(C)[B"), (7, .class_ 391), (0, u "java/lang/StringLatin1$CharsSpliterator")] 3

def k15m0 : Method := { name := "<init>", desc := "()V", sig := { parameters := [], returnType := none }, accessFlags := 0, code := none }
def k15c1 : Code := { maxStack := 2, maxLocals := 1, code := jdk_43_method_3_code, exceptionTable := #[], attributes := #[] }
def k15m1 : Method := { name := "canEncode", desc := "(C)Z", sig := { parameters := [.char], returnType := some .boolean }, accessFlags := 9, code := some k15c1 }
def k15c2 : Code := { maxStack := 4, maxLocals := 1, code := jdk_43_method_46_code, exceptionTable := #[], attributes := #[] }
def k15m2 : Method := { name := "toBytes", desc := "(C)[B", sig := { parameters := [.char], returnType := some (.array .byte) }, accessFlags := 9, code := some k15c2 }
/-- java/lang/StringLatin1 -/
def k15 : Class := { plain "java/lang/StringLatin1" (some 0) with
  accessFlags := 48
  interfaces := #[]
  cf := some (fileOf pool15 14 #[.nestMembers #[390, 221]] #[{ accessFlags := 0, nameIndex := 7, descriptorIndex := 8, attributes := #[] }, { accessFlags := 9, nameIndex := 90, descriptorIndex := 105, attributes := #[] }, { accessFlags := 9, nameIndex := 380, descriptorIndex := 382, attributes := #[] }] 48 4 #[] #[{ accessFlags := 4120, nameIndex := 121, descriptorIndex := 122, attributes := #[] }])
  fields := #[{ name := "$assertionsDisabled", type := .boolean, accessFlags := 4120, slot := 0, constantValue := 0 }]
  methods := #[k15m0, k15m1, k15m2]
  instanceTypes := #[]
  staticTypes := #[.boolean]
  resolved := Array.replicate 395 none
  statics := none }

def pool16 : Array CpInfo := pool [(2, .class_ 4), (1, u "java/lang/Object"), (0, u "<init>"), (0, u "()V"), (17, .class_ 26), (1, u "jdk/internal/util/Preconditions"), (28, .class_ 56), (0, u "jdk/internal/util/Preconditions$4"), (57, .class_ 115), (0, u "jdk/internal/util/Preconditions$1"), (7, u "SIOOBE_FORMATTER"), (0, u "Ljava/util/function/BiFunction;"), (0, .class_ 126), (0, u "jdk/internal/util/Preconditions$2"), (3, u "AIOOBE_FORMATTER"), (0, .class_ 132), (0, u "jdk/internal/util/Preconditions$3"), (3, u "IOOBE_FORMATTER")] 57

def k16m0 : Method := { name := "<init>", desc := "()V", sig := { parameters := [], returnType := none }, accessFlags := 1, code := none }
/-- jdk/internal/util/Preconditions -/
def k16 : Class := { plain "jdk/internal/util/Preconditions" (some 0) with
  accessFlags := 33
  interfaces := #[]
  cf := some (fileOf pool16 24 #[.nestMembers #[55, 131, 125, 114]] #[{ accessFlags := 1, nameIndex := 5, descriptorIndex := 6, attributes := #[] }] 33 2 #[] #[{ accessFlags := 25, nameIndex := 123, descriptorIndex := 124, attributes := #[] }, { accessFlags := 25, nameIndex := 130, descriptorIndex := 124, attributes := #[] }, { accessFlags := 25, nameIndex := 136, descriptorIndex := 124, attributes := #[] }])
  fields := #[{ name := "SIOOBE_FORMATTER", type := (.object "java/util/function/BiFunction"), accessFlags := 25, slot := 0, constantValue := 0 }, { name := "AIOOBE_FORMATTER", type := (.object "java/util/function/BiFunction"), accessFlags := 25, slot := 1, constantValue := 0 }, { name := "IOOBE_FORMATTER", type := (.object "java/util/function/BiFunction"), accessFlags := 25, slot := 2, constantValue := 0 }]
  methods := #[k16m0]
  instanceTypes := #[]
  staticTypes := #[(.object "java/util/function/BiFunction"), (.object "java/util/function/BiFunction"), (.object "java/util/function/BiFunction")]
  resolved := Array.replicate 194 none
  statics := some 2 }

def pool17 : Array CpInfo := pool [(9, u "<init>"), (6, .class_ 18), (1, u "java/lang/Object"), (0, u "()V"), (1, .class_ 23), (1, u "jdk/internal/util/ArraysSupport"), (0, u "LOG2_ARRAY_LONG_INDEX_SCALE"), (0, u "I"), (2, u "U"), (0, u "Ljdk/internal/misc/Unsafe;"), (8, u "BIG_ENDIAN"), (0, u "Z"), (8, u "LOG2_BYTE_BIT_SIZE"), (4, u "LOG2_ARRAY_INT_INDEX_SCALE"), (54, u "JLA"), (0, u "Ljdk/internal/access/JavaLangAccess;"), (11, u "LOG2_ARRAY_BOOLEAN_INDEX_SCALE"), (9, u "LOG2_ARRAY_BYTE_INDEX_SCALE"), (5, u "LOG2_ARRAY_CHAR_INDEX_SCALE"), (5, u "LOG2_ARRAY_SHORT_INDEX_SCALE"), (18, u "LOG2_ARRAY_FLOAT_INDEX_SCALE"), (24, u "LOG2_ARRAY_DOUBLE_INDEX_SCALE"), (89, u "T_BOOLEAN"), (2, u "T_CHAR"), (1, u "T_FLOAT"), (1, u "T_DOUBLE"), (1, u "T_BYTE"), (1, u "T_SHORT"), (1, u "T_INT"), (1, u "T_LONG"), (1, u "SOFT_MAX_ARRAY_LENGTH")] 83

def k17m0 : Method := { name := "<init>", desc := "()V", sig := { parameters := [], returnType := none }, accessFlags := 2, code := none }
/-- jdk/internal/util/ArraysSupport -/
def k17 : Class := { plain "jdk/internal/util/ArraysSupport" (some 0) with
  accessFlags := 33
  interfaces := #[]
  cf := some (fileOf pool17 21 #[] #[{ accessFlags := 2, nameIndex := 9, descriptorIndex := 19, attributes := #[] }] 33 16 #[] #[{ accessFlags := 24, nameIndex := 28, descriptorIndex := 29, attributes := #[] }, { accessFlags := 26, nameIndex := 38, descriptorIndex := 39, attributes := #[] }, { accessFlags := 25, nameIndex := 121, descriptorIndex := 25, attributes := #[] }, { accessFlags := 25, nameIndex := 131, descriptorIndex := 25, attributes := #[] }, { accessFlags := 25, nameIndex := 137, descriptorIndex := 25, attributes := #[] }, { accessFlags := 25, nameIndex := 143, descriptorIndex := 25, attributes := #[] }, { accessFlags := 25, nameIndex := 53, descriptorIndex := 25, attributes := #[] }, { accessFlags := 25, nameIndex := 24, descriptorIndex := 25, attributes := #[] }, { accessFlags := 25, nameIndex := 162, descriptorIndex := 25, attributes := #[] }, { accessFlags := 25, nameIndex := 187, descriptorIndex := 25, attributes := #[] }, { accessFlags := 26, nameIndex := 48, descriptorIndex := 25, attributes := #[] }, { accessFlags := 25, nameIndex := 277, descriptorIndex := 25, attributes := #[] }, { accessFlags := 25, nameIndex := 280, descriptorIndex := 25, attributes := #[] }, { accessFlags := 25, nameIndex := 282, descriptorIndex := 25, attributes := #[] }, { accessFlags := 25, nameIndex := 284, descriptorIndex := 25, attributes := #[] }, { accessFlags := 25, nameIndex := 286, descriptorIndex := 25, attributes := #[] }, { accessFlags := 25, nameIndex := 288, descriptorIndex := 25, attributes := #[] }, { accessFlags := 25, nameIndex := 290, descriptorIndex := 25, attributes := #[] }, { accessFlags := 25, nameIndex := 292, descriptorIndex := 25, attributes := #[] }, { accessFlags := 26, nameIndex := 108, descriptorIndex := 109, attributes := #[] }, { accessFlags := 25, nameIndex := 294, descriptorIndex := 25, attributes := #[] }])
  fields := #[{ name := "U", type := (.object "jdk/internal/misc/Unsafe"), accessFlags := 24, slot := 0, constantValue := 0 }, { name := "BIG_ENDIAN", type := .boolean, accessFlags := 26, slot := 1, constantValue := 0 }, { name := "LOG2_ARRAY_BOOLEAN_INDEX_SCALE", type := .int, accessFlags := 25, slot := 2, constantValue := 0 }, { name := "LOG2_ARRAY_BYTE_INDEX_SCALE", type := .int, accessFlags := 25, slot := 3, constantValue := 0 }, { name := "LOG2_ARRAY_CHAR_INDEX_SCALE", type := .int, accessFlags := 25, slot := 4, constantValue := 0 }, { name := "LOG2_ARRAY_SHORT_INDEX_SCALE", type := .int, accessFlags := 25, slot := 5, constantValue := 0 }, { name := "LOG2_ARRAY_INT_INDEX_SCALE", type := .int, accessFlags := 25, slot := 6, constantValue := 0 }, { name := "LOG2_ARRAY_LONG_INDEX_SCALE", type := .int, accessFlags := 25, slot := 7, constantValue := 0 }, { name := "LOG2_ARRAY_FLOAT_INDEX_SCALE", type := .int, accessFlags := 25, slot := 8, constantValue := 0 }, { name := "LOG2_ARRAY_DOUBLE_INDEX_SCALE", type := .int, accessFlags := 25, slot := 9, constantValue := 0 }, { name := "LOG2_BYTE_BIT_SIZE", type := .int, accessFlags := 26, slot := 10, constantValue := 0 }, { name := "T_BOOLEAN", type := .int, accessFlags := 25, slot := 11, constantValue := 0 }, { name := "T_CHAR", type := .int, accessFlags := 25, slot := 12, constantValue := 0 }, { name := "T_FLOAT", type := .int, accessFlags := 25, slot := 13, constantValue := 0 }, { name := "T_DOUBLE", type := .int, accessFlags := 25, slot := 14, constantValue := 0 }, { name := "T_BYTE", type := .int, accessFlags := 25, slot := 15, constantValue := 0 }, { name := "T_SHORT", type := .int, accessFlags := 25, slot := 16, constantValue := 0 }, { name := "T_INT", type := .int, accessFlags := 25, slot := 17, constantValue := 0 }, { name := "T_LONG", type := .int, accessFlags := 25, slot := 18, constantValue := 0 }, { name := "JLA", type := (.object "jdk/internal/access/JavaLangAccess"), accessFlags := 26, slot := 19, constantValue := 0 }, { name := "SOFT_MAX_ARRAY_LENGTH", type := .int, accessFlags := 25, slot := 20, constantValue := 0 }]
  methods := #[k17m0]
  instanceTypes := #[]
  staticTypes := #[(.object "jdk/internal/misc/Unsafe"), .boolean, .int, .int, .int, .int, .int, .int, .int, .int, .int, .int, .int, .int, .int, .int, .int, .int, .int, (.object "jdk/internal/access/JavaLangAccess"), .int]
  resolved := Array.replicate 378 none
  statics := none }

def pool18 : Array CpInfo := pool [(2, .class_ 4), (1, u "java/lang/Object"), (0, u "<init>"), (0, u "()V"), (1, .class_ 10), (1, u "java/util/AbstractCollection"), (66, .class_ 78), (0, u "java/util/Collection")] 81

def k18m0 : Method := { name := "<init>", desc := "()V", sig := { parameters := [], returnType := none }, accessFlags := 4, code := none }
/-- java/util/AbstractCollection -/
def k18 : Class := { plain "java/util/AbstractCollection" (some 0) with
  accessFlags := 1057
  interfaces := #[10]
  cf := some (fileOf pool18 8 #[] #[{ accessFlags := 4, nameIndex := 5, descriptorIndex := 6, attributes := #[] }] 1057 2 #[77] #[])
  fields := #[]
  methods := #[k18m0]
  instanceTypes := #[]
  staticTypes := #[]
  resolved := Array.replicate 160 none
  statics := none }

def pool19 : Array CpInfo := pool [(2, .class_ 4), (1, u "java/util/AbstractCollection"), (0, u "<init>"), (0, u "()V"), (1, .class_ 10), (1, u "java/util/ImmutableCollections"), (2, .class_ 14), (0, u "java/util/ImmutableCollections$AbstractImmutableCollection")] 41

def k19m0 : Method := { name := "<init>", desc := "()V", sig := { parameters := [], returnType := none }, accessFlags := 0, code := none }
/-- java/util/ImmutableCollections$AbstractImmutableCollection -/
def k19 : Class := { plain "java/util/ImmutableCollections$AbstractImmutableCollection" (some 18) with
  accessFlags := 1056
  interfaces := #[]
  cf := some (fileOf pool19 13 #[.nestHost 8] #[{ accessFlags := 0, nameIndex := 5, descriptorIndex := 6, attributes := #[] }] 1056 2 #[] #[])
  fields := #[]
  methods := #[k19m0]
  instanceTypes := #[]
  staticTypes := #[]
  resolved := Array.replicate 56 none
  statics := none }

def pool20 : Array CpInfo := pool [(1, .class_ 2), (0, u "java/util/RandomAccess"), (0, .class_ 4), (0, u "java/lang/Object")] 2

/-- java/util/RandomAccess -/
def k20 : Class := { plain "java/util/RandomAccess" (some 0) with
  accessFlags := 1537
  interfaces := #[]
  cf := some (fileOf pool20 1 #[] #[] 1537 3 #[] #[])
  fields := #[]
  methods := #[]
  instanceTypes := #[]
  staticTypes := #[]
  resolved := Array.replicate 7 none
  statics := none }

def pool21 : Array CpInfo := pool [(2, .class_ 4), (1, u "java/util/ImmutableCollections$AbstractImmutableCollection"), (0, u "<init>"), (0, u "()V"), (1, .class_ 10), (1, u "java/util/ImmutableCollections"), (3, .class_ 16), (1, u "java/util/ImmutableCollections$AbstractImmutableList"), (60, .class_ 78), (0, u "java/util/List"), (45, .class_ 125), (0, u "java/util/RandomAccess")] 70

def k21m0 : Method := { name := "<init>", desc := "()V", sig := { parameters := [], returnType := none }, accessFlags := 0, code := none }
/-- java/util/ImmutableCollections$AbstractImmutableList -/
def k21 : Class := { plain "java/util/ImmutableCollections$AbstractImmutableList" (some 19) with
  accessFlags := 1056
  interfaces := #[12, 20]
  cf := some (fileOf pool21 14 #[.nestHost 8] #[{ accessFlags := 0, nameIndex := 5, descriptorIndex := 6, attributes := #[] }] 1056 2 #[77, 124] #[])
  fields := #[]
  methods := #[k21m0]
  instanceTypes := #[]
  staticTypes := #[]
  resolved := Array.replicate 196 none
  statics := none }

def pool22 : Array CpInfo := pool [(2, .class_ 4), (1, u "java/util/ImmutableCollections$AbstractImmutableList"), (3, .class_ 10), (1, u "java/util/ImmutableCollections$ListN"), (0, u "elements"), (0, u "[Ljava/lang/Object;"), (2, u "allowNulls"), (0, u "Z"), (42, .class_ 60), (0, u "java/io/Serializable"), (53, .class_ 115), (0, u "java/util/ImmutableCollections")] 3

/-- java/util/ImmutableCollections$ListN -/
def k22 : Class := { plain "java/util/ImmutableCollections$ListN" (some 21) with
  accessFlags := 48
  interfaces := #[2]
  cf := some (fileOf pool22 8 #[.nestHost 114] #[] 48 2 #[59] #[{ accessFlags := 18, nameIndex := 11, descriptorIndex := 12, attributes := #[] }, { accessFlags := 18, nameIndex := 15, descriptorIndex := 16, attributes := #[] }])
  fields := #[{ name := "elements", type := (.array (.object "java/lang/Object")), accessFlags := 18, slot := 0, constantValue := 0 }, { name := "allowNulls", type := .boolean, accessFlags := 18, slot := 1, constantValue := 0 }]
  methods := #[]
  instanceTypes := #[(.array (.object "java/lang/Object")), .boolean]
  staticTypes := #[]
  resolved := Array.replicate 119 none
  statics := none }

def pool23 : Array CpInfo := pool [(1, u "java/lang/Cloneable"), (0, .class_ 1), (0, u "java/lang/Object"), (0, .class_ 3)] 3

/-- java/lang/Cloneable -/
def k23 : Class := { plain "java/lang/Cloneable" (some 0) with
  accessFlags := 1537
  interfaces := #[]
  cf := some (fileOf pool23 2 #[] #[] 1537 4 #[] #[])
  fields := #[]
  methods := #[]
  instanceTypes := #[]
  staticTypes := #[]
  resolved := Array.replicate 8 none
  statics := none }

/-- the primitive byte -/
def k24 : Class := { plain "byte" none with kind := .primitive 'B', accessFlags := 0x411 }
/-- [B -/
def k25 : Class := { plain "[B" (some 0) with kind := .array 24 .byte, interfaces := #[23, 2], accessFlags := 1041 }

/-- the primitive char -/
def k26 : Class := { plain "char" none with kind := .primitive 'C', accessFlags := 0x411 }
/-- [C -/
def k27 : Class := { plain "[C" (some 0) with kind := .array 26 .char, interfaces := #[23, 2], accessFlags := 1041 }

/-- the primitive int -/
def k28 : Class := { plain "int" none with kind := .primitive 'I', accessFlags := 0x411 }
/-- [I -/
def k29 : Class := { plain "[I" (some 0) with kind := .array 28 .int, interfaces := #[23, 2], accessFlags := 1041 }

/-- [Ljava/lang/Object; -/
def k30 : Class := { plain "[Ljava/lang/Object;" (some 0) with kind := .array 0 (.object "java/lang/Object"), interfaces := #[23, 2], accessFlags := 1041 }

def heap : Heap := #[{ cls := 7, slots := #[.long 0, .int 1, .null, .int 0, .null, .int 0, .int 0], vm := .statics 7 },
  { cls := 13, slots := #[.long 0, .int 0, .null, .null, .ref 4, .null, .null, .null, .int 0, .int 0], vm := .statics 13 },
  { cls := 16, slots := #[.ref 5, .null, .null], vm := .statics 16 },
  { cls := 30, slots := #[], vm := .none },
  { cls := 22, slots := #[.ref 3, .int 0], vm := .none },
  { cls := 0, slots := #[], vm := .none }]
def classes : Array Class := #[k0, k1, k2, k3, k4, k5, k6, k7, k8, k9, k10, k11, k12, k13, k14, k15, k16, k17, k18, k19, k20, k21, k22, k23, k24, k25, k26, k27, k28, k29, k30]
def interned : List (Array UInt16 × Addr) := []
def slotsUsed : Nat := 22
def theMethod : MethodId := ⟨1, 2⟩
def args0 : Array Value := #[.int 5, .int 6, .int 7, .int 8, .int 9]
def aboutOver (below : List Frame) : State where
  vm := { classes := classes, interned := interned.toArray }
  heap := heap
  slotsUsed := slotsUsed
  threads := #[{ frames := .invoking theMethod args0 :: below }]
def below0 : List Frame := [.native { method := ⟨0, 0⟩, args := #[] }]
def about1 : State := aboutOver below0
def p0 : Program := .bare "" "" ""
def e0 : Env := launch0.env 0 0 0
theorem w_frames : about1.frames = Frame.invoking theMethod args0 :: below0 := rfl
set_option maxRecDepth 65536 in
theorem w_args : argsFit about1.vm theMethod args0 = true := by decide +kernel
set_option maxRecDepth 65536 in
theorem w_heap : heapFits about1 = true := by decide +kernel
set_option maxRecDepth 65536 in
theorem w_runnable : about1.curStatus? = some .runnable := by decide +kernel
set_option maxRecDepth 65536 in
theorem w_alone : about1.alone = true := by decide +kernel
set_option maxRecDepth 65536 in
theorem w_named : about1.methodNamed? x = some theMethod := by decide +kernel
set_option maxRecDepth 65536 in
theorem w_hears : about1.hears theMethod below0 = true := by decide +kernel
set_option maxRecDepth 65536 in
theorem w_ripe : about1.ripe theMethod args0 below0 = true := by decide +kernel
theorem w_running : about1.status = .running := rfl
set_option maxRecDepth 65536 in
theorem w_room : about1.hasRoom e0.platform room_1 = true :=
  launch0.hasRoom_least _ room_1 (by decide +kernel) (by decide +kernel) (by decide +kernel) (by decide +kernel) (by decide +kernel) (by decide +kernel)
theorem allAtoms_all (ts : List Jvm.Cond) (a : Array Jvm.Value) (st : Jvm.State) : (allAtoms ts).before a st = ts.all (fun c => c.before a st) := by
  induction ts with
  | nil => rfl
  | cons c t ih =>
    show (Jvm.Cond.and c (allAtoms t)).before a st = _
    rw [Jvm.Cond.before_and, ih, List.all_cons]
def words1 : List Jvm.Cond := Jvm.Cond.code x code maxLocals ret :: tables_1
/-- a 'code' word, met by the world's own term for the bytes: nothing is compared byte by byte -/
theorem code_word {y : MethodName} {bytes : ByteArray} {mx : Nat} {rt : Option FieldType} {a : Array Value} {s : State} {m : MethodId} {meth : Method} {c : Code} (h1 : s.methodNamed? y = some m) (h2 : s.vm.method? m = some meth) (h3 : meth.code = some c) (h4 : c.code = bytes)
    (h5 : (c.maxLocals == mx && c.exceptionTable.isEmpty && decide (c.maxStack ≤ mostOperands) && decide (meth.sig.returnType = rt) && !meth.locks && decide (parseMethodDescriptor y.desc = some meth.sig)) = true) : (Jvm.Cond.code y bytes mx rt).before a s = true := by
  simp only [Bool.and_eq_true, beq_iff_eq, Bool.not_eq_true', decide_eq_true_eq] at h5
  obtain ⟨⟨⟨⟨⟨g1, g2⟩, g3⟩, g4⟩, g5⟩, g6⟩ := h5
  simp [Cond.before, Cond.holds, Cond.value, h1, h2, h3, h4, g1, g2, g3, g4, g5, g6]
def isCode : Jvm.Cond → Bool
  | .code _ _ _ _ => true
  | _ => false
theorem all_split {L : List Jvm.Cond} {P : Jvm.Cond → Bool} (h1 : L.all (fun c => isCode c || P c) = true) (h2 : ∀ c ∈ L.filter isCode, P c = true) : L.all P = true := by
  refine List.all_eq_true.mpr fun c hc => ?_
  have h := List.all_eq_true.mp h1 c hc
  rcases Bool.eq_false_or_eq_true (isCode c) with hi | hi
  · exact h2 c (List.mem_filter.mpr ⟨hc, hi⟩)
  · simpa [hi] using h
set_option maxRecDepth 65536 in
theorem w_c0 : (Jvm.Cond.code x code maxLocals ret).before args0 about1 = true := code_word (m := ⟨1, 2⟩) (meth := k1m2) (c := k1c2) (by decide +kernel) rfl rfl rfl (by decide +kernel)
set_option maxRecDepth 65536 in
theorem w_c1 : (Jvm.Cond.code ({ cls := "com/example/pacelint/pacelint/io/XmlElementAutosarNamePinLaw", name := "draw", desc := "(III)Ljava/lang/String;" } : Jvm.MethodName) method_2_code (4 : Nat) (Option.some (Jvm.ClassFile.FieldType.object "java/lang/String"))).before args0 about1 = true := code_word (m := ⟨1, 1⟩) (meth := k1m1) (c := k1c1) (by decide +kernel) rfl rfl rfl (by decide +kernel)
set_option maxRecDepth 65536 in
theorem w_c2 : (Jvm.Cond.code ({ cls := "com/example/pacelint/pacelint/io/XmlElement", name := "<init>", desc := "(Ljava/lang/String;Ljava/lang/String;Lcom/example/pacelint/pacelint/model/Location;Ljava/util/Map;)V" } : Jvm.MethodName) prog_56_method_1_code (5 : Nat) (Option.none : Option Jvm.ClassFile.FieldType)).before args0 about1 = true := code_word (m := ⟨8, 0⟩) (meth := k8m0) (c := k8c0) (by decide +kernel) rfl rfl rfl (by decide +kernel)
set_option maxRecDepth 65536 in
theorem w_c3 : (Jvm.Cond.code ({ cls := "java/lang/Object", name := "<init>", desc := "()V" } : Jvm.MethodName) object_method_1_code (1 : Nat) (Option.none : Option Jvm.ClassFile.FieldType)).before args0 about1 = true := code_word (m := ⟨0, 0⟩) (meth := k0m0) (c := k0c0) (by decide +kernel) rfl rfl rfl (by decide +kernel)
set_option maxRecDepth 65536 in
theorem w_c4 : (Jvm.Cond.code ({ cls := "java/util/List", name := "of", desc := "()Ljava/util/List;" } : Jvm.MethodName) jdk_40_method_36_code (0 : Nat) (Option.some (Jvm.ClassFile.FieldType.object "java/util/List"))).before args0 about1 = true := code_word (m := ⟨12, 0⟩) (meth := k12m0) (c := k12c0) (by decide +kernel) rfl rfl rfl (by decide +kernel)
set_option maxRecDepth 65536 in
theorem w_c5 : (Jvm.Cond.code ({ cls := "com/example/pacelint/pacelint/io/XmlElement", name := "autosarName", desc := "()Ljava/lang/String;" } : Jvm.MethodName) prog_56_method_3_code (1 : Nat) (Option.some (Jvm.ClassFile.FieldType.object "java/lang/String"))).before args0 about1 = true := code_word (m := ⟨8, 2⟩) (meth := k8m2) (c := k8c2) (by decide +kernel) rfl rfl rfl (by decide +kernel)
set_option maxRecDepth 65536 in
theorem w_c6 : (Jvm.Cond.code ({ cls := "java/lang/String", name := "equals", desc := "(Ljava/lang/Object;)Z" } : Jvm.MethodName) jdk_42_method_66_code (3 : Nat) (Option.some Jvm.ClassFile.FieldType.boolean)).before args0 about1 = true := code_word (m := ⟨7, 3⟩) (meth := k7m3) (c := k7c3) (by decide +kernel) rfl rfl rfl (by decide +kernel)
set_option maxRecDepth 65536 in
theorem w_c7 : (Jvm.Cond.code ({ cls := "com/example/pacelint/pacelint/io/XmlElement", name := "name", desc := "()Ljava/lang/String;" } : Jvm.MethodName) prog_56_method_2_code (1 : Nat) (Option.some (Jvm.ClassFile.FieldType.object "java/lang/String"))).before args0 about1 = true := code_word (m := ⟨8, 1⟩) (meth := k8m1) (c := k8c1) (by decide +kernel) rfl rfl rfl (by decide +kernel)
set_option maxRecDepth 65536 in
theorem w_c8 : (Jvm.Cond.code ({ cls := "java/lang/String", name := "<init>", desc := "([C)V" } : Jvm.MethodName) jdk_42_method_3_code (2 : Nat) (Option.none : Option Jvm.ClassFile.FieldType)).before args0 about1 = true := code_word (m := ⟨7, 1⟩) (meth := k7m1) (c := k7c1) (by decide +kernel) rfl rfl rfl (by decide +kernel)
set_option maxRecDepth 65536 in
theorem w_c9 : (Jvm.Cond.code ({ cls := "java/lang/String", name := "<init>", desc := "([CIILjava/lang/Void;)V" } : Jvm.MethodName) jdk_42_method_149_code (6 : Nat) (Option.none : Option Jvm.ClassFile.FieldType)).before args0 about1 = true := code_word (m := ⟨7, 5⟩) (meth := k7m5) (c := k7c5) (by decide +kernel) rfl rfl rfl (by decide +kernel)
set_option maxRecDepth 65536 in
theorem w_c10 : (Jvm.Cond.code ({ cls := "java/lang/StringUTF16", name := "compress", desc := "([CII)[B" } : Jvm.MethodName) jdk_52_method_16_code (6 : Nat) (Option.some (Jvm.ClassFile.FieldType.array Jvm.ClassFile.FieldType.byte))).before args0 about1 = true := code_word (m := ⟨14, 2⟩) (meth := k14m2) (c := k14c2) (by decide +kernel) rfl rfl rfl (by decide +kernel)
set_option maxRecDepth 65536 in
theorem w_c11 : (Jvm.Cond.code ({ cls := "java/lang/StringUTF16", name := "compress", desc := "([CI[BII)I" } : Jvm.MethodName) jdk_52_method_21_code (7 : Nat) (Option.some Jvm.ClassFile.FieldType.int)).before args0 about1 = true := code_word (m := ⟨14, 3⟩) (meth := k14m3) (c := k14c3) (by decide +kernel) rfl rfl rfl (by decide +kernel)
set_option maxRecDepth 65536 in
theorem w_c12 : (Jvm.Cond.code ({ cls := "java/lang/StringUTF16", name := "coderFromArrayLen", desc := "([BI)B" } : Jvm.MethodName) jdk_52_method_15_code (2 : Nat) (Option.some Jvm.ClassFile.FieldType.byte)).before args0 about1 = true := code_word (m := ⟨14, 1⟩) (meth := k14m1) (c := k14c1) (by decide +kernel) rfl rfl rfl (by decide +kernel)
set_option maxRecDepth 65536 in
theorem w_c13 : (Jvm.Cond.code ({ cls := "java/lang/String", name := "isEmpty", desc := "()Z" } : Jvm.MethodName) jdk_42_method_55_code (1 : Nat) (Option.some Jvm.ClassFile.FieldType.boolean)).before args0 about1 = true := code_word (m := ⟨7, 2⟩) (meth := k7m2) (c := k7c2) (by decide +kernel) rfl rfl rfl (by decide +kernel)
set_option maxRecDepth 65536 in
theorem w_c14 : (Jvm.Cond.code ({ cls := "java/lang/String", name := "valueOf", desc := "(C)Ljava/lang/String;" } : Jvm.MethodName) jdk_42_method_139_code (1 : Nat) (Option.some (Jvm.ClassFile.FieldType.object "java/lang/String"))).before args0 about1 = true := code_word (m := ⟨7, 4⟩) (meth := k7m4) (c := k7c4) (by decide +kernel) rfl rfl rfl (by decide +kernel)
set_option maxRecDepth 65536 in
theorem w_c15 : (Jvm.Cond.code ({ cls := "java/lang/StringLatin1", name := "canEncode", desc := "(C)Z" } : Jvm.MethodName) jdk_43_method_3_code (1 : Nat) (Option.some Jvm.ClassFile.FieldType.boolean)).before args0 about1 = true := code_word (m := ⟨15, 1⟩) (meth := k15m1) (c := k15c1) (by decide +kernel) rfl rfl rfl (by decide +kernel)
set_option maxRecDepth 65536 in
theorem w_c16 : (Jvm.Cond.code ({ cls := "java/lang/StringLatin1", name := "toBytes", desc := "(C)[B" } : Jvm.MethodName) jdk_43_method_46_code (1 : Nat) (Option.some (Jvm.ClassFile.FieldType.array Jvm.ClassFile.FieldType.byte))).before args0 about1 = true := code_word (m := ⟨15, 2⟩) (meth := k15m2) (c := k15c2) (by decide +kernel) rfl rfl rfl (by decide +kernel)
set_option maxRecDepth 65536 in
theorem w_c17 : (Jvm.Cond.code ({ cls := "java/lang/String", name := "<init>", desc := "([BB)V" } : Jvm.MethodName) jdk_42_method_151_code (3 : Nat) (Option.none : Option Jvm.ClassFile.FieldType)).before args0 about1 = true := code_word (m := ⟨7, 6⟩) (meth := k7m6) (c := k7c6) (by decide +kernel) rfl rfl rfl (by decide +kernel)
def codes1 : List Jvm.Cond := [Jvm.Cond.code x code maxLocals ret, Jvm.Cond.code ({ cls := "com/example/pacelint/pacelint/io/XmlElementAutosarNamePinLaw", name := "draw", desc := "(III)Ljava/lang/String;" } : Jvm.MethodName) method_2_code (4 : Nat) (Option.some (Jvm.ClassFile.FieldType.object "java/lang/String")), Jvm.Cond.code ({ cls := "com/example/pacelint/pacelint/io/XmlElement", name := "<init>", desc := "(Ljava/lang/String;Ljava/lang/String;Lcom/example/pacelint/pacelint/model/Location;Ljava/util/Map;)V" } : Jvm.MethodName) prog_56_method_1_code (5 : Nat) (Option.none : Option Jvm.ClassFile.FieldType), Jvm.Cond.code ({ cls := "java/lang/Object", name := "<init>", desc := "()V" } : Jvm.MethodName) object_method_1_code (1 : Nat) (Option.none : Option Jvm.ClassFile.FieldType), Jvm.Cond.code ({ cls := "java/util/List", name := "of", desc := "()Ljava/util/List;" } : Jvm.MethodName) jdk_40_method_36_code (0 : Nat) (Option.some (Jvm.ClassFile.FieldType.object "java/util/List")), Jvm.Cond.code ({ cls := "com/example/pacelint/pacelint/io/XmlElement", name := "autosarName", desc := "()Ljava/lang/String;" } : Jvm.MethodName) prog_56_method_3_code (1 : Nat) (Option.some (Jvm.ClassFile.FieldType.object "java/lang/String")), Jvm.Cond.code ({ cls := "java/lang/String", name := "equals", desc := "(Ljava/lang/Object;)Z" } : Jvm.MethodName) jdk_42_method_66_code (3 : Nat) (Option.some Jvm.ClassFile.FieldType.boolean), Jvm.Cond.code ({ cls := "com/example/pacelint/pacelint/io/XmlElement", name := "name", desc := "()Ljava/lang/String;" } : Jvm.MethodName) prog_56_method_2_code (1 : Nat) (Option.some (Jvm.ClassFile.FieldType.object "java/lang/String")), Jvm.Cond.code ({ cls := "java/lang/String", name := "<init>", desc := "([C)V" } : Jvm.MethodName) jdk_42_method_3_code (2 : Nat) (Option.none : Option Jvm.ClassFile.FieldType), Jvm.Cond.code ({ cls := "java/lang/String", name := "<init>", desc := "([CIILjava/lang/Void;)V" } : Jvm.MethodName) jdk_42_method_149_code (6 : Nat) (Option.none : Option Jvm.ClassFile.FieldType), Jvm.Cond.code ({ cls := "java/lang/StringUTF16", name := "compress", desc := "([CII)[B" } : Jvm.MethodName) jdk_52_method_16_code (6 : Nat) (Option.some (Jvm.ClassFile.FieldType.array Jvm.ClassFile.FieldType.byte)), Jvm.Cond.code ({ cls := "java/lang/StringUTF16", name := "compress", desc := "([CI[BII)I" } : Jvm.MethodName) jdk_52_method_21_code (7 : Nat) (Option.some Jvm.ClassFile.FieldType.int), Jvm.Cond.code ({ cls := "java/lang/StringUTF16", name := "coderFromArrayLen", desc := "([BI)B" } : Jvm.MethodName) jdk_52_method_15_code (2 : Nat) (Option.some Jvm.ClassFile.FieldType.byte), Jvm.Cond.code ({ cls := "java/lang/String", name := "isEmpty", desc := "()Z" } : Jvm.MethodName) jdk_42_method_55_code (1 : Nat) (Option.some Jvm.ClassFile.FieldType.boolean), Jvm.Cond.code ({ cls := "java/lang/String", name := "valueOf", desc := "(C)Ljava/lang/String;" } : Jvm.MethodName) jdk_42_method_139_code (1 : Nat) (Option.some (Jvm.ClassFile.FieldType.object "java/lang/String")), Jvm.Cond.code ({ cls := "java/lang/StringLatin1", name := "canEncode", desc := "(C)Z" } : Jvm.MethodName) jdk_43_method_3_code (1 : Nat) (Option.some Jvm.ClassFile.FieldType.boolean), Jvm.Cond.code ({ cls := "java/lang/StringLatin1", name := "toBytes", desc := "(C)[B" } : Jvm.MethodName) jdk_43_method_46_code (1 : Nat) (Option.some (Jvm.ClassFile.FieldType.array Jvm.ClassFile.FieldType.byte)), Jvm.Cond.code ({ cls := "java/lang/String", name := "<init>", desc := "([BB)V" } : Jvm.MethodName) jdk_42_method_151_code (3 : Nat) (Option.none : Option Jvm.ClassFile.FieldType)]
set_option maxRecDepth 65536 in
theorem codes_eq : words1.filter isCode = codes1 := rfl
theorem w_codes : ∀ c ∈ words1.filter isCode, c.before args0 about1 = true := by
  rw [codes_eq]
  intro c hc
  simp only [codes1, List.mem_cons, List.not_mem_nil, or_false] at hc
  rcases hc with rfl | rfl | rfl | rfl | rfl | rfl | rfl | rfl | rfl | rfl | rfl | rfl | rfl | rfl | rfl | rfl | rfl | rfl
  · exact w_c0
  · exact w_c1
  · exact w_c2
  · exact w_c3
  · exact w_c4
  · exact w_c5
  · exact w_c6
  · exact w_c7
  · exact w_c8
  · exact w_c9
  · exact w_c10
  · exact w_c11
  · exact w_c12
  · exact w_c13
  · exact w_c14
  · exact w_c15
  · exact w_c16
  · exact w_c17
set_option maxRecDepth 65536 in
theorem w_t1 : (words1.take 24).all (fun c => isCode c || c.before args0 about1) = true := by decide +kernel
set_option maxRecDepth 65536 in
theorem w_t2 : ((words1.drop 24).take 24).all (fun c => isCode c || c.before args0 about1) = true := by decide +kernel
set_option maxRecDepth 65536 in
theorem w_t3 : (((words1.drop 24).drop 24).take 24).all (fun c => isCode c || c.before args0 about1) = true := by decide +kernel
set_option maxRecDepth 65536 in
theorem w_t4 : ((((words1.drop 24).drop 24).drop 24).take 24).all (fun c => isCode c || c.before args0 about1) = true := by decide +kernel
set_option maxRecDepth 65536 in
theorem w_t5 : ((((words1.drop 24).drop 24).drop 24).drop 24).all (fun c => isCode c || c.before args0 about1) = true := by decide +kernel
theorem w_tables : (allAtoms (Jvm.Cond.code x code maxLocals ret :: tables_1)).before args0 about1 = true := by
  rw [allAtoms_all]
  show words1.all (fun c => c.before args0 about1) = true
  refine all_split ?_ w_codes
  rw [← List.take_append_drop 24 words1, List.all_append, w_t1, ← List.take_append_drop 24 (words1.drop 24), List.all_append, w_t2, ← List.take_append_drop 24 ((words1.drop 24).drop 24), List.all_append, w_t3, ← List.take_append_drop 24 (((words1.drop 24).drop 24).drop 24), List.all_append, w_t4, w_t5]
  rfl
set_option maxRecDepth 65536 in
theorem w_rest : rest_1_c.before args0 about1 = true := by decide +kernel
set_option maxRecDepth 65536 in
theorem w_case : (Jvm.Cond.and given_1 narrow_1).before args0 about1 = true := by decide +kernel
set_option maxRecDepth 65536 in
theorem w_consts : constsHeld consts_1 about1 := Jvm.Lit.constsHeldB_iff.mp (by decide +kernel)
theorem w_applies : (headSpec (Jvm.Cond.code x code maxLocals ret :: tables_1) room_1).applies x e0.platform about1 = true :=
  (Spec.applies_iff w_frames).mpr ⟨w_running, w_runnable, w_alone, w_named, w_hears, w_ripe, w_room, w_tables⟩
theorem atStart : AtStart classFile x code maxLocals ret World_1 tables_1 room_1 Calls_1 rest_1 Pre_1 launch0 p0 e0 about1 theMethod args0 below0 :=
  ⟨lists_1, trivial, launch0.admits_env _ _ _, launch0.least_env, fairChoices_fair.cas, fairChoices_fair.clock, w_frames, w_args, w_heap, w_applies, ⟨w_consts, trivial⟩, w_rest, w_case⟩
end start1
theorem witness_1 : WitnessClaimed_1 := ⟨start1.p0, start1.e0, start1.about1, start1.theMethod, start1.args0, start1.below0, start1.atStart⟩
end Jvm.Pilot.@@N@@
