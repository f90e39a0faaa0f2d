import JvmDerived
import JvmDerived.Pilot.@@N@@Statement
import JvmDerived.Pilot.@@N@@Code
set_option linter.unusedVariables false
set_option linter.unusedSimpArgs false
@@BLOCK:NumsL.lean.txt@@
/- laws to paste: Road.backV (cut by pick.py; bodies as the Statement names them) -/
namespace Jvm.Pilot.@@N@@
namespace StrChars
open Jvm Sem ClassFile Op Lib Jvm.Stand Jvm.Free.XT Jvm.Free.ALB Jvm.Free.JM Jvm.Free
open Jvm.Lib.Cold (StaticIs)
/-- a char array whose places are chars -/
def Ch (a : Addr) (A : Cell) (U : State) : Prop := Arr .char a A U ∧ Typed .char A
theorem Ch.mv {a : Addr} {A : Cell} {U U' : State} (h : Ch a A U) (hal : U.vm.Alike U'.vm) (hh : U'.heap = U.heap) : Ch a A U' := ⟨h.1.mv hal hh, h.2⟩
theorem Ch.keep {a : Addr} {A : Cell} {U U' : State} (h : Ch a A U) (hal : U.vm.Alike U'.vm) (hk : U'.heap[a]? = some A) : Ch a A U' := ⟨h.1.keep hal hk, h.2⟩
/-- what place i of a char[]'s cell holds -/
def cv (A : Cell) (i : Nat) : Int32 := match A.slots[i]? with | some (.int x) => x | _ => 0
theorem Ch.get {a : Addr} {A : Cell} {U : State} (h : Ch a A U) {i : Nat} (hi : i < A.slots.size) : A.slots[i]? = some (.int (cv A i)) := by
  have e := Array.getElem?_eq_getElem hi
  have f := h.2 i _ e
  unfold cv; rw [e]
  generalize A.slots[i] = v at f
  cases v <;> simp [fits] at f ⊢
/-- the byte that i2b leaves of a char -/
def lo8 (x : Int32) : Int32 := x.toInt8.toInt32
theorem fits_lo8 (y : Int32) : fits .byte (.int (lo8 y)) = true := by
  have h1 := y.toInt8.le_toInt
  have h2 := y.toInt8.toInt_lt
  simp only [lo8, fits, Bool.and_eq_true, decide_eq_true_eq, Int32.le_iff_toInt_le, Int8.toInt_toInt32, show (-128 : Int32).toInt = -128 from by decide, show (127 : Int32).toInt = 127 from by decide]
  omega
/-- A' is A but that each place j of lo .. hi - 1 holds f j -/
def Laid (A A' : Cell) (lo hi : Nat) (f : Nat → Value) : Prop := A'.cls = A.cls ∧ A'.vm = A.vm ∧ A'.slots.size = A.slots.size ∧ ∀ i, A'.slots[i]? = if lo ≤ i ∧ i < hi then some (f i) else A.slots[i]?
theorem Laid.zero (A : Cell) (lo : Nat) (f : Nat → Value) : Laid A A lo (lo + 0) f := ⟨rfl, rfl, rfl, fun i => by rw [if_neg (by omega)]⟩
theorem Laid.step {A Ak : Cell} {lo k : Nat} {f : Nat → Value} {v : Value} (h : Laid A Ak lo k f) (hlo : lo ≤ k) (hk : k < Ak.slots.size) (hv : v = f k) : Laid A (Ak.setSlot k v) lo (k + 1) f := by
  refine ⟨h.1, h.2.1, by simpa [Cell.setSlot] using h.2.2.1, fun i => ?_⟩
  by_cases e : k = i
  · subst e; rw [Cell.slots_setSlot_self v hk, if_pos (by omega), hv]
  · rw [Cell.slots_setSlot_ne v e, h.2.2.2 i]
    by_cases q : lo ≤ i ∧ i < k
    · rw [if_pos q, if_pos (by omega)]
    · rw [if_neg q, if_neg (by omega)]
def U16 : String := "java/lang/StringUTF16"
namespace Cmp5
def yN : MethodName := ⟨"java/lang/StringUTF16", "compress", "([CI[BII)I"⟩
abbrev yB : ByteArray := jdk_52_method_21_code
theorem d0 : decode yB 0 = .ok (.iconst 0, 1) := by decide +kernel
theorem d1 : decode yB 1 = .ok (.istore 5, 2) := by decide +kernel
theorem d3 : decode yB 3 = .ok (.iload 5, 2) := by decide +kernel
theorem d5 : decode yB 5 = .ok (.iload 4, 2) := by decide +kernel
theorem d7 : decode yB 7 = .ok (.if_icmp (.ge) 37, 3) := by decide +kernel
theorem d10 : decode yB 10 = .ok (.aload_n 0, 1) := by decide +kernel
theorem d11 : decode yB 11 = .ok (.iload_n 1, 1) := by decide +kernel
theorem d12 : decode yB 12 = .ok (.caload, 1) := by decide +kernel
theorem d13 : decode yB 13 = .ok (.istore 6, 2) := by decide +kernel
theorem d15 : decode yB 15 = .ok (.iload 6, 2) := by decide +kernel
theorem d17 : decode yB 17 = .ok (.sipush 255, 3) := by decide +kernel
theorem d20 : decode yB 20 = .ok (.if_icmp (.le) 6, 3) := by decide +kernel
theorem d26 : decode yB 26 = .ok (.aload_n 2, 1) := by decide +kernel
theorem d27 : decode yB 27 = .ok (.iload_n 3, 1) := by decide +kernel
theorem d28 : decode yB 28 = .ok (.iload 6, 2) := by decide +kernel
theorem d30 : decode yB 30 = .ok (.i2b, 1) := by decide +kernel
theorem d31 : decode yB 31 = .ok (.bastore, 1) := by decide +kernel
theorem d32 : decode yB 32 = .ok (.iinc 1 1, 3) := by decide +kernel
theorem d35 : decode yB 35 = .ok (.iinc 3 1, 3) := by decide +kernel
theorem d38 : decode yB 38 = .ok (.iinc 5 1, 3) := by decide +kernel
theorem d41 : decode yB 41 = .ok (.goto (-38), 3) := by decide +kernel
theorem d44 : decode yB 44 = .ok (.iload 4, 2) := by decide +kernel
theorem d46 : decode yB 46 = .ok (.ireturn, 1) := by decide +kernel
def site : List Cond := []
def tab : Cond := tabOf yN yB 7 (some .int) site
def P (b : Addr) (A : Cell) (d : Addr) (B : Cell) (o q len : Nat) (args : Array Value) (s : State) : Prop := args = #[.ref b, .int (Int32.ofNat o), .ref d, .int (Int32.ofNat q), .int (Int32.ofNat len)] ∧ Ch b A s ∧ Arr .byte d B s ∧ b ≠ d ∧ o + len ≤ A.slots.size ∧ q + len ≤ B.slots.size ∧ ∀ i, i < len → ¬ 255 < cv A (o + i)
def E (b : Addr) (A : Cell) (d : Addr) (B : Cell) (o q len : Nat) (r : Option Value) (s u : State) : Prop := r = some (.int (Int32.ofNat len)) ∧ ∃ B', Put d B' s u ∧ Laid B B' q (q + len) (fun j => Value.int (lo8 (cv A (o + (j - q)))))
/-- no char of the range above 255: len; the places written hold each char's low byte -/
theorem law (l : Launch) (b : Addr) (A : Cell) (d : Addr) (B : Cell) (o q len : Nat) : Law l yN 5 5 0 0 yB 7 (some .int) site (P b A d B o q len) (E b A d B o q len) (copyLocs d q len) 0 0 := by
  refine Law.of_walk (plainFor_of_name (by decide +kernel)) (by decide +kernel) (by decide +kernel) (by decide) (fun _ _ h => by rw [h.1]; rfl) (fun _ U U' hal hh h => ⟨h.1, h.2.1.mv hal hh, h.2.2.1.mv hal hh, h.2.2.2⟩) (fun r U U' V V' h1 hal h2 h => ⟨h.1, h.2.elim fun B' q => ⟨B', q.1.mv h1 h2, q.2⟩⟩) ?_
  intro p e s m args below meth c s₁ X0 hexec hbytes hml hret hlk hnm hown hh0 W hP
  obtain ⟨rfl, hA, hB, hne, l1, l2, hp⟩ := hP
  have c1 : Steps p.tables e below (s₁.setTop (entryFrame m #[.ref b, .int (Int32.ofNat o), .ref d, .int (Int32.ofNat q), .int (Int32.ofNat len)] 7)) (s₁.setTop (mkF m 0 #[.val (.ref b), .val (.int (Int32.ofNat o)), .val (.ref d), .val (.int (Int32.ofNat q)), .val (.int (Int32.ofNat len)), .unset, .unset] [])) := entry rfl
  have hA0 := hA.1.mv X0.warmed.alike hh0
  have hB0 := hB.mv X0.warmed.alike hh0
  have a31 := hA.1.2.2.2
  have c2 : Steps p.tables e below (s₁.setTop (entryFrame m #[.ref b, .int (Int32.ofNat o), .ref d, .int (Int32.ofNat q), .int (Int32.ofNat len)] 7)) (s₁.setTop (mkF m 3 #[.val (.ref b), .val (.int (Int32.ofNat o)), .val (.ref d), .val (.int (Int32.ofNat q)), .val (.int (Int32.ofNat len)), .val (.int 0), .unset] [])) := c1.trans (by
    refine iconstV X0.here hexec rfl 0 (hb hbytes d0) (by decide) ?_
    refine XS.istore X0.here hexec rfl (hb hbytes d1) rfl rfl ?_
    exact Steps.refl _)
  have loop : ∀ (r i : Nat), i + r = len → ∀ (z : Slot), (z = .unset ∨ ∃ w, z = .val w ∧ w.category = 1) → ∀ (Tl : State) (Bk : Cell), Stand p l e { frames := 0, locals := 0, cells := 0, slots := 0 } s m #[.ref b, .int (Int32.ofNat o), .ref d, .int (Int32.ofNat q), .int (Int32.ofNat len)] below meth c Tl ([] ++ copyLocs d q i) 0 0 → Put d Bk s₁ Tl → Laid B Bk q (q + i) (fun j => Value.int (lo8 (cv A (o + (j - q))))) →
      Steps p.tables e below (s₁.setTop (entryFrame m #[.ref b, .int (Int32.ofNat o), .ref d, .int (Int32.ofNat q), .int (Int32.ofNat len)] 7)) (Tl.setTop (mkF m 3 #[.val (.ref b), .val (.int (Int32.ofNat (o + i))), .val (.ref d), .val (.int (Int32.ofNat (q + i))), .val (.int (Int32.ofNat len)), .val (.int (Int32.ofNat i)), z] [])) → ∃ (T' : State) (B' : Cell) (z' : Slot), Stand p l e { frames := 0, locals := 0, cells := 0, slots := 0 } s m #[.ref b, .int (Int32.ofNat o), .ref d, .int (Int32.ofNat q), .int (Int32.ofNat len)] below meth c T' ([] ++ copyLocs d q len) 0 0 ∧ Put d B' s₁ T' ∧ Laid B B' q (q + len) (fun j => Value.int (lo8 (cv A (o + (j - q))))) ∧
      Steps p.tables e below (s₁.setTop (entryFrame m #[.ref b, .int (Int32.ofNat o), .ref d, .int (Int32.ofNat q), .int (Int32.ofNat len)] 7)) (T'.setTop (mkF m 3 #[.val (.ref b), .val (.int (Int32.ofNat (o + len))), .val (.ref d), .val (.int (Int32.ofNat (q + len))), .val (.int (Int32.ofNat len)), .val (.int (Int32.ofNat len)), z'] [])) := by
    intro r
    induction r with
    | zero =>
      intro i hi z hz Tl Bk Xl pl fl cl
      have hil : i = len := by omega
      rw [hil] at Xl fl cl
      exact ⟨Tl, Bk, z, Xl, pl, fl, cl⟩
    | succ r ih =>
      intro i hi z hz Tl Bk Xl pl fl cl
      have all := X0.warmed.alike.symm.trans Xl.warmed.alike
      have hAl := hA0.keep all (pl.other hne hA0.1)
      have hBk := hB0.like all pl.1 fl.1 fl.2.1 fl.2.2.1
      have hlt : q + i < Bk.slots.size := by rw [fl.2.2.1]; omega
      have c3 : Steps p.tables e below (s₁.setTop (entryFrame m #[.ref b, .int (Int32.ofNat o), .ref d, .int (Int32.ofNat q), .int (Int32.ofNat len)] 7)) (Tl.setTop (mkF m 12 #[.val (.ref b), .val (.int (Int32.ofNat (o + i))), .val (.ref d), .val (.int (Int32.ofNat (q + i))), .val (.int (Int32.ofNat len)), .val (.int (Int32.ofNat i)), z] [.int (Int32.ofNat (o + i)), .ref b])) := cl.trans (by
        refine XS.iload Xl.here hexec rfl (hb hbytes d3) rfl ?_
        refine XS.iload Xl.here hexec rfl (hb hbytes d5) rfl ?_
        refine XS.icmpNo Xl.here hexec rfl (hb hbytes d7) rfl (ii_ge_f (lt32 (by omega) (by omega))) ?_
        refine XS.aloadN Xl.here hexec rfl (hb hbytes d10) rfl rfl ?_
        refine XS.iloadN Xl.here hexec rfl (hb hbytes d11) rfl ?_
        exact Steps.refl _)
      have c4 : Steps p.tables e below (s₁.setTop (entryFrame m #[.ref b, .int (Int32.ofNat o), .ref d, .int (Int32.ofNat q), .int (Int32.ofNat len)] 7)) (Tl.setTop (mkF m 13 #[.val (.ref b), .val (.int (Int32.ofNat (o + i))), .val (.ref d), .val (.int (Int32.ofNat (q + i))), .val (.int (Int32.ofNat len)), .val (.int (Int32.ofNat i)), z] [.int (cv A (o + i))])) := c3.trans (by
        refine Xl.aget hexec hAl rfl (hA.get (i := o + i) (by omega)) rfl rfl (hb hbytes d12) ?_
        exact Steps.refl _)
      have c5 : Steps p.tables e below (s₁.setTop (entryFrame m #[.ref b, .int (Int32.ofNat o), .ref d, .int (Int32.ofNat q), .int (Int32.ofNat len)] 7)) (Tl.setTop (mkF m 15 #[.val (.ref b), .val (.int (Int32.ofNat (o + i))), .val (.ref d), .val (.int (Int32.ofNat (q + i))), .val (.int (Int32.ofNat len)), .val (.int (Int32.ofNat i)), .val (.int (cv A (o + i)))] [])) := c4.trans (by
        refine XS.istoreS Xl.here hexec rfl (hb hbytes d13) rfl rfl hz ?_
        exact Steps.refl _)
      have c6 : Steps p.tables e below (s₁.setTop (entryFrame m #[.ref b, .int (Int32.ofNat o), .ref d, .int (Int32.ofNat q), .int (Int32.ofNat len)] 7)) (Tl.setTop (mkF m 31 #[.val (.ref b), .val (.int (Int32.ofNat (o + i))), .val (.ref d), .val (.int (Int32.ofNat (q + i))), .val (.int (Int32.ofNat len)), .val (.int (Int32.ofNat i)), .val (.int (cv A (o + i)))] [.int (lo8 (cv A (o + i))), .int (Int32.ofNat (q + i)), .ref d])) := c5.trans (by
        refine XS.iload Xl.here hexec rfl (hb hbytes d15) rfl ?_
        refine sipushV Xl.here hexec rfl 255 (hb hbytes d17) (by decide) ?_
        refine XS.icmpYes Xl.here hexec rfl (pc0 := 20) rfl (hb hbytes d20) rfl (ii_le_t (hp i (by omega))) (by decide) rfl ?_
        refine XS.aloadN Xl.here hexec rfl (hb hbytes d26) rfl rfl ?_
        refine XS.iloadN Xl.here hexec rfl (hb hbytes d27) rfl ?_
        refine XS.iload Xl.here hexec rfl (hb hbytes d28) rfl ?_
        refine i2b Xl.here hexec rfl (hb hbytes d30) rfl ?_
        exact Steps.refl _)
      obtain ⟨T7, X7, p7, st7⟩ := Xl.aput hexec hBk rfl hlt rfl (fits_lo8 (cv A (o + i))) (g := (mkF m 31 #[.val (.ref b), .val (.int (Int32.ofNat (o + i))), .val (.ref d), .val (.int (Int32.ofNat (q + i))), .val (.int (Int32.ofNat len)), .val (.int (Int32.ofNat i)), .val (.int (cv A (o + i)))] [.int (lo8 (cv A (o + i))), .int (Int32.ofNat (q + i)), .ref d])) rfl (rest := []) rfl (hb hbytes d31)
      have c8 : Steps p.tables e below (s₁.setTop (entryFrame m #[.ref b, .int (Int32.ofNat o), .ref d, .int (Int32.ofNat q), .int (Int32.ofNat len)] 7)) (T7.setTop (mkF m 32 #[.val (.ref b), .val (.int (Int32.ofNat (o + i))), .val (.ref d), .val (.int (Int32.ofNat (q + i))), .val (.int (Int32.ofNat len)), .val (.int (Int32.ofNat i)), .val (.int (cv A (o + i)))] [])) := c6.trans (st7 _ (Steps.refl _))
      have c9 : Steps p.tables e below (s₁.setTop (entryFrame m #[.ref b, .int (Int32.ofNat o), .ref d, .int (Int32.ofNat q), .int (Int32.ofNat len)] 7)) (T7.setTop (mkF m 3 #[.val (.ref b), .val (.int (Int32.ofNat (o + i) + 1)), .val (.ref d), .val (.int (Int32.ofNat (q + i) + 1)), .val (.int (Int32.ofNat len)), .val (.int (Int32.ofNat i + 1)), .val (.int (cv A (o + i)))] [])) := c8.trans (by
        refine iincV X7.here hexec rfl 1 (hb hbytes d32) (by decide) rfl rfl ?_
        refine iincV X7.here hexec rfl 1 (hb hbytes d35) (by decide) rfl rfl ?_
        refine iincV X7.here hexec rfl 1 (hb hbytes d38) (by decide) rfl rfl ?_
        refine XS.goto X7.here hexec rfl (pc0 := 41) rfl (hb hbytes d41) (by decide) rfl ?_
        exact Steps.refl _)
      have c10 : Steps p.tables e below (s₁.setTop (entryFrame m #[.ref b, .int (Int32.ofNat o), .ref d, .int (Int32.ofNat q), .int (Int32.ofNat len)] 7)) (T7.setTop (mkF m 3 #[.val (.ref b), .val (.int (Int32.ofNat (o + (i + 1)))), .val (.ref d), .val (.int (Int32.ofNat (q + (i + 1)))), .val (.int (Int32.ofNat len)), .val (.int (Int32.ofNat (i + 1))), .val (.int (cv A (o + i)))] [])) := by
        have := c9
        rw [succ32, succ32, succ32] at this
        exact this
      exact ih (i + 1) (by omega) _ (Or.inr ⟨_, rfl, rfl⟩) T7 _ (by rw [copyLocs_step, ← List.append_assoc]; exact X7) (pl.trans p7) (fl.step (by omega) hlt (by simp)) c10
  obtain ⟨T9, B9, z9, X9, p9, f9, g9⟩ := loop len 0 (by omega) .unset (Or.inl rfl) s₁ B (by simpa [copyLocs] using X0) ⟨hB0.1, fun _ _ => rfl, rfl⟩ (Laid.zero _ _ _) c2
  have c11 : Steps p.tables e below (s₁.setTop (entryFrame m #[.ref b, .int (Int32.ofNat o), .ref d, .int (Int32.ofNat q), .int (Int32.ofNat len)] 7)) (T9.setTop (mkF m 46 #[.val (.ref b), .val (.int (Int32.ofNat (o + len))), .val (.ref d), .val (.int (Int32.ofNat (q + len))), .val (.int (Int32.ofNat len)), .val (.int (Int32.ofNat len)), z9] [.int (Int32.ofNat len)])) := g9.trans (by
    refine XS.iload X9.here hexec rfl (hb hbytes d3) rfl ?_
    refine XS.iload X9.here hexec rfl (hb hbytes d5) rfl ?_
    refine XS.icmpYes X9.here hexec rfl (pc0 := 7) rfl (hb hbytes d7) rfl (ii_ge_t (nlt32 (by omega) (Nat.le_refl _))) (by decide) rfl ?_
    refine XS.iload X9.here hexec rfl (hb hbytes d44) rfl ?_
    exact Steps.refl _)
  exact ⟨T9, some (.int (Int32.ofNat len)), _, _, _, X9, by simp, rfl, rfl, (fun h => by cases h), ⟨rfl, B9, p9.from hh0, f9⟩, fun fs hl => c11.trans (X9.ireturnOut hexec hret rfl (Or.inl rfl) (hb hbytes d46) hl)⟩
end Cmp5
namespace Cmp3
def yN : MethodName := ⟨"java/lang/StringUTF16", "compress", "([CII)[B"⟩
abbrev yB : ByteArray := jdk_52_method_16_code
theorem d0 : decode yB 0 = .ok (.iload_n 2, 1) := by decide +kernel
theorem d1 : decode yB 1 = .ok (.newarray .byte, 2) := by decide +kernel
theorem d3 : decode yB 3 = .ok (.astore_n 3, 1) := by decide +kernel
theorem d4 : decode yB 4 = .ok (.aload_n 0, 1) := by decide +kernel
theorem d5 : decode yB 5 = .ok (.iload_n 1, 1) := by decide +kernel
theorem d6 : decode yB 6 = .ok (.aload_n 3, 1) := by decide +kernel
theorem d7 : decode yB 7 = .ok (.iconst 0, 1) := by decide +kernel
theorem d8 : decode yB 8 = .ok (.iload_n 2, 1) := by decide +kernel
theorem d9 : decode yB 9 = .ok (.invokestatic 115, 3) := by decide +kernel
theorem d12 : decode yB 12 = .ok (.istore 4, 2) := by decide +kernel
theorem d14 : decode yB 14 = .ok (.iload 4, 2) := by decide +kernel
theorem d16 : decode yB 16 = .ok (.iload_n 2, 1) := by decide +kernel
theorem d17 : decode yB 17 = .ok (.if_icmp (.eq) 40, 3) := by decide +kernel
theorem d57 : decode yB 57 = .ok (.aload_n 3, 1) := by decide +kernel
theorem d58 : decode yB 58 = .ok (.areturn, 1) := by decide +kernel
def site : List Cond := [.arrayClass .byte, Cmp5.tab] ++ staticW U16 115 Cmp5.yN
def tab : Cond := tabOf yN yB 6 (some (.array .byte)) site
def P (b : Addr) (A : Cell) (o len : Nat) (args : Array Value) (s : State) : Prop := args = #[.ref b, .int (Int32.ofNat o), .int (Int32.ofNat len)] ∧ Ch b A s ∧ o + len ≤ A.slots.size ∧ len ≤ 536870912 ∧ ∀ i, i < len → ¬ 255 < cv A (o + i)
def E (b : Addr) (A : Cell) (o len : Nat) (r : Option Value) (s u : State) : Prop := NewArr .byte "[B" len (fun j => .int (lo8 (cv A (o + j)))) r s u ∧ u.heap.size = s.heap.size + 1
/-- no char of the range above 255: a new byte[] of their low bytes -/
theorem law (l : Launch) (b : Addr) (A : Cell) (o len : Nat) : Law l yN 3 3 1 18 yB 6 (some (.array .byte)) site (P b A o len) (E b A o len) [] 1 len := by
  refine Law.of_walk (plainFor_of_name (by decide +kernel)) (by decide +kernel) (by decide +kernel) (by decide) (fun _ _ h => by rw [h.1]; rfl) (fun _ U U' hal hh h => ⟨h.1, h.2.1.mv hal hh, h.2.2⟩) (fun r U U' V V' h1 hal h2 h => ⟨NewArr.mv r U U' V V' h1 hal h2 h.1, by rw [h1, h2]; exact h.2⟩) ?_
  intro p e s m args below meth c s₁ X0 hexec hbytes hml hret hlk hnm hown hh0 W hP
  obtain ⟨rfl, hA, l1, l2, hp⟩ := hP
  have a31 := hA.1.2.2.2
  have c1 : Steps p.tables e below (s₁.setTop (entryFrame m #[.ref b, .int (Int32.ofNat o), .int (Int32.ofNat len)] 6)) (s₁.setTop (mkF m 0 #[.val (.ref b), .val (.int (Int32.ofNat o)), .val (.int (Int32.ofNat len)), .unset, .unset, .unset] [])) := entry rfl
  have c2 : Steps p.tables e below (s₁.setTop (entryFrame m #[.ref b, .int (Int32.ofNat o), .int (Int32.ofNat len)] 6)) (s₁.setTop (mkF m 1 #[.val (.ref b), .val (.int (Int32.ofNat o)), .val (.int (Int32.ofNat len)), .unset, .unset, .unset] [.int (Int32.ofNat len)])) := c1.trans (by
    refine XS.iloadN X0.here hexec rfl (hb hbytes d0) rfl ?_
    exact Steps.refl _)
  obtain ⟨T3, B3, X3, ba3, bs3, bv3, bh3, bf3, st3⟩ := X0.anew hexec (atype := .byte) (wk W (.arrayClass .byte)) rfl (by show len * 1 ≤ _; omega) (by omega) (g := (mkF m 1 #[.val (.ref b), .val (.int (Int32.ofNat o)), .val (.int (Int32.ofNat len)), .unset, .unset, .unset] [.int (Int32.ofNat len)])) rfl (hb hbytes d1) (rest := []) rfl (Nat.le_refl _) (by show 0 + len ≤ len; omega)
  rw [hh0] at ba3 st3
  have kp3 : XT.Kept s T3 := (XT.Kept.of_eq hh0).push bh3
  have hA3 := hA.keep X3.warmed.alike (kp3 _ _ hA.1.1)
  have hne : b ≠ s.heap.size := hA.1.ne
  have c4 : Steps p.tables e below (s₁.setTop (entryFrame m #[.ref b, .int (Int32.ofNat o), .int (Int32.ofNat len)] 6)) (T3.setTop (mkF m 3 #[.val (.ref b), .val (.int (Int32.ofNat o)), .val (.int (Int32.ofNat len)), .unset, .unset, .unset] [.ref s.heap.size])) := c2.trans (st3 _ (Steps.refl _))
  have c5 : Steps p.tables e below (s₁.setTop (entryFrame m #[.ref b, .int (Int32.ofNat o), .int (Int32.ofNat len)] 6)) (T3.setTop (mkF m 9 #[.val (.ref b), .val (.int (Int32.ofNat o)), .val (.int (Int32.ofNat len)), .val (.ref s.heap.size), .unset, .unset] [.int (Int32.ofNat len), .int 0, .ref s.heap.size, .int (Int32.ofNat o), .ref b])) := c4.trans (by
    refine XS.astoreN X3.here hexec rfl (hb hbytes d3) rfl rfl rfl ?_
    refine XS.aloadN X3.here hexec rfl (hb hbytes d4) rfl rfl ?_
    refine XS.iloadN X3.here hexec rfl (hb hbytes d5) rfl ?_
    refine XS.aloadN X3.here hexec rfl (hb hbytes d6) rfl rfl ?_
    refine iconstV X3.here hexec rfl 0 (hb hbytes d7) (by decide) ?_
    refine XS.iloadN X3.here hexec rfl (hb hbytes d8) rfl ?_
    exact Steps.refl _)
  obtain ⟨v6, T6, X6, E6, g6⟩ := X3.callS hexec (Cmp5.law l b A s.heap.size B3 o 0 len) hown (wks W (staticW U16 115 Cmp5.yN)) (wk W Cmp5.tab) (W := 0) (Nat.le_of_ble_eq_true rfl) (Nat.le_of_ble_eq_true rfl) (Nat.le_refl _) (by show 0 + len + 0 ≤ len; omega) (g := (mkF m 9 #[.val (.ref b), .val (.int (Int32.ofNat o)), .val (.int (Int32.ofNat len)), .val (.ref s.heap.size), .unset, .unset] [.int (Int32.ofNat len), .int (Int32.ofNat 0), .ref s.heap.size, .int (Int32.ofNat o), .ref b])) rfl (by rw [hml]; rfl) c5 (argsL := [.ref b, .int (Int32.ofNat o), .ref s.heap.size, .int (Int32.ofNat 0), .int (Int32.ofNat len)]) (rest := []) rfl rfl (by show 2 * 0 + 0 ≤ _; decide) (hb hbytes d9) (⟨rfl, hA3, ba3, hne, l1, by rw [bs3]; simp, hp⟩)
  obtain ⟨rfl, B6, p6, f6⟩ := E6
  have c7 : Steps p.tables e below (s₁.setTop (entryFrame m #[.ref b, .int (Int32.ofNat o), .int (Int32.ofNat len)] 6)) (T6.setTop (mkF m 12 #[.val (.ref b), .val (.int (Int32.ofNat o)), .val (.int (Int32.ofNat len)), .val (.ref s.heap.size), .unset, .unset] [.int (Int32.ofNat len)])) := g6
  have c8 : Steps p.tables e below (s₁.setTop (entryFrame m #[.ref b, .int (Int32.ofNat o), .int (Int32.ofNat len)] 6)) (T6.setTop (mkF m 58 #[.val (.ref b), .val (.int (Int32.ofNat o)), .val (.int (Int32.ofNat len)), .val (.ref s.heap.size), .val (.int (Int32.ofNat len)), .unset] [.ref s.heap.size])) := c7.trans (by
    refine XS.istore X6.here hexec rfl (hb hbytes d12) rfl rfl ?_
    refine XS.iload X6.here hexec rfl (hb hbytes d14) rfl ?_
    refine XS.iloadN X6.here hexec rfl (hb hbytes d16) rfl ?_
    refine XS.icmpYes X6.here hexec rfl (pc0 := 17) rfl (hb hbytes d17) rfl (ii_eq_t rfl) (by decide) rfl ?_
    refine XS.aloadN X6.here hexec rfl (hb hbytes d57) rfl rfl ?_
    exact Steps.refl _)
  have X8 := X6.wide (L' := []) (cells' := 1) (slots' := len) (fun x hx hlt => by
    simp only [List.nil_append, copyLocs, List.mem_map, List.mem_range] at hx
    obtain ⟨i, -, rfl⟩ := hx
    exact absurd hlt (Nat.lt_irrefl _)) (Nat.le_refl _) (by omega)
  exact ⟨T6, some (.ref s.heap.size), _, _, _, X8, rfl, rfl, rfl, (fun h => by cases h), ⟨⟨rfl, B6, ba3.like (X3.warmed.alike.symm.trans X6.warmed.alike) p6.1 f6.1 f6.2.1 f6.2.2.1, f6.2.1.trans bv3, by rw [X6.warmed.alike.findClass, f6.1]; exact bf3, by rw [f6.2.2.1, bs3]; simp, fun j hj => by rw [f6.2.2.2 j, if_pos (by omega)]; rfl, kp3.put p6 (Nat.le_refl _)⟩, by rw [p6.2.2, bh3, hh0]; simp⟩, fun fs hl => c8.trans (X8.areturnOut hexec rfl hret rfl (hb hbytes d58) hl)⟩
end Cmp3
namespace CodL
def yN : MethodName := ⟨"java/lang/StringUTF16", "coderFromArrayLen", "([BI)B"⟩
abbrev yB : ByteArray := jdk_52_method_15_code
theorem d0 : decode yB 0 = .ok (.iload_n 1, 1) := by decide +kernel
theorem d1 : decode yB 1 = .ok (.aload_n 0, 1) := by decide +kernel
theorem d2 : decode yB 2 = .ok (.arraylength, 1) := by decide +kernel
theorem d3 : decode yB 3 = .ok (.isub, 1) := by decide +kernel
theorem d4 : decode yB 4 = .ok (.bipush 31, 2) := by decide +kernel
theorem d6 : decode yB 6 = .ok (.iushr, 1) := by decide +kernel
theorem d7 : decode yB 7 = .ok (.i2b, 1) := by decide +kernel
theorem d8 : decode yB 8 = .ok (.ireturn, 1) := by decide +kernel
def site : List Cond := []
def tab : Cond := tabOf yN yB 2 (some .byte) site
def P (d : Addr) (B : Cell) (args : Array Value) (s : State) : Prop := args = #[.ref d, .int (Int32.ofNat B.slots.size)] ∧ Arr .byte d B s
def E (r : Option Value) (s u : State) : Prop := XT.PureE (some (.int 0)) r s u
/-- an array as long as the number of chars: LATIN1 -/
theorem law (l : Launch) (d : Addr) (B : Cell) : Law l yN 2 2 0 0 yB 2 (some .byte) site (P d B) E [] 0 0 := by
  refine Law.of_walk (plainFor_of_name (by decide +kernel)) (by decide +kernel) (by decide +kernel) (by decide) (fun _ _ h => by rw [h.1]; rfl) (fun _ U U' hal hh h => ⟨h.1, h.2.mv hal hh⟩) (fun r U U' V V' h1 hal h2 h => XT.PureE.mv r U U' V V' h1 hal h2 h) ?_
  intro p e s m args below meth c s₁ X0 hexec hbytes hml hret hlk hnm hown hh0 W hP
  obtain ⟨rfl, hB⟩ := hP
  have hB0 := hB.mv X0.warmed.alike hh0
  have c1 : Steps p.tables e below (s₁.setTop (entryFrame m #[.ref d, .int (Int32.ofNat B.slots.size)] 2)) (s₁.setTop (mkF m 0 #[.val (.ref d), .val (.int (Int32.ofNat B.slots.size))] [])) := entry rfl
  have c2 : Steps p.tables e below (s₁.setTop (entryFrame m #[.ref d, .int (Int32.ofNat B.slots.size)] 2)) (s₁.setTop (mkF m 2 #[.val (.ref d), .val (.int (Int32.ofNat B.slots.size))] [.ref d, .int (Int32.ofNat B.slots.size)])) := c1.trans (by
    refine XS.iloadN X0.here hexec rfl (hb hbytes d0) rfl ?_
    refine XS.aloadN X0.here hexec rfl (hb hbytes d1) rfl rfl ?_
    exact Steps.refl _)
  have c3 : Steps p.tables e below (s₁.setTop (entryFrame m #[.ref d, .int (Int32.ofNat B.slots.size)] 2)) (s₁.setTop (mkF m 8 #[.val (.ref d), .val (.int (Int32.ofNat B.slots.size))] [.int (lo8 (ushr (Int32.ofNat B.slots.size - Int32.ofNat B.slots.size) 31))])) := c2.trans (by
    refine X0.alen hexec hB0 rfl rfl (hb hbytes d2) ?_
    refine XS.isub X0.here hexec rfl (hb hbytes d3) rfl ?_
    refine bipushV X0.here hexec rfl 31 (hb hbytes d4) (by decide) ?_
    refine iushr X0.here hexec rfl (hb hbytes d6) rfl ?_
    refine i2b X0.here hexec rfl (hb hbytes d7) rfl ?_
    exact Steps.refl _)
  have e0 : lo8 (ushr (Int32.ofNat B.slots.size - Int32.ofNat B.slots.size) 31) = 0 := by rw [Int32.sub_self]; decide
  rw [e0] at c3
  exact ⟨s₁, some (.int 0), _, _, _, X0, rfl, rfl, rfl, (fun h => by cases h), ⟨rfl, hh0⟩, fun fs hl => c3.trans (X0.ireturnOut hexec hret rfl (Or.inr (Or.inr (Or.inl rfl))) (hb hbytes d8) hl)⟩
end CodL
/-- the String at a is Latin-1 over a new byte[] (the heap's one new cell): the low bytes of the len chars of A from o on; every cell but a is kept -/
def Got (a : Addr) (D : Cell) (fV fC : Field) (A : Cell) (o len : Nat) (r : Option Value) (s u : State) : Prop := r = none ∧ ∃ D' V : Cell, Blank "java/lang/String" a D' u ∧ Same D D' [fV.slot, fC.slot] ∧ D'.slots[fV.slot]? = some (.ref s.heap.size) ∧ D'.slots[fC.slot]? = some (.int 0) ∧ Arr .byte s.heap.size V u ∧ V.vm = .none ∧ u.vm.findClass "[B" = some V.cls ∧ V.slots.size = len ∧ (∀ j, j < len → V.slots[j]? = some (.int (lo8 (cv A (o + j))))) ∧ (∀ (y : Addr) (c : Cell), y ≠ a → s.heap[y]? = some c → u.heap[y]? = some c) ∧ u.heap.size = s.heap.size + 1
theorem Got.mv {a : Addr} {D A : Cell} {fV fC : Field} {o len : Nat} : ∀ r (U U' V V' : State), U'.heap = U.heap → V.vm.Alike V'.vm → V'.heap = V.heap → Got a D fV fC A o len r U V → Got a D fV fC A o len r U' V' :=
  fun r U U' V V' h1 hal h2 ⟨e0, D', X, a1, a2, a3, a4, a5, a6, a7, a8, a9, a10, a11⟩ => ⟨e0, D', X, a1.mv hal h2, a2, by rw [h1]; exact a3, a4, by rw [h1]; exact a5.mv hal h2, a6, by rw [hal.findClass]; exact a7, a8, a9, by rw [h1, h2]; exact a10, by rw [h1, h2]; exact a11⟩
namespace New4
def yN : MethodName := ⟨"java/lang/String", "<init>", "([CIILjava/lang/Void;)V"⟩
abbrev yB : ByteArray := jdk_42_method_149_code
theorem d0 : decode yB 0 = .ok (.aload_n 0, 1) := by decide +kernel
theorem d1 : decode yB 1 = .ok (.invokespecial 1, 3) := by decide +kernel
theorem d4 : decode yB 4 = .ok (.iload_n 3, 1) := by decide +kernel
theorem d5 : decode yB 5 = .ok (.ifCond (.ne) 22, 3) := by decide +kernel
theorem d27 : decode yB 27 = .ok (.getstatic 38, 3) := by decide +kernel
theorem d30 : decode yB 30 = .ok (.ifCond (.eq) 28, 3) := by decide +kernel
theorem d33 : decode yB 33 = .ok (.aload_n 1, 1) := by decide +kernel
theorem d34 : decode yB 34 = .ok (.iload_n 2, 1) := by decide +kernel
theorem d35 : decode yB 35 = .ok (.iload_n 3, 1) := by decide +kernel
theorem d36 : decode yB 36 = .ok (.invokestatic 177, 3) := by decide +kernel
theorem d39 : decode yB 39 = .ok (.astore 5, 2) := by decide +kernel
theorem d41 : decode yB 41 = .ok (.aload_n 0, 1) := by decide +kernel
theorem d42 : decode yB 42 = .ok (.aload 5, 2) := by decide +kernel
theorem d44 : decode yB 44 = .ok (.iload_n 3, 1) := by decide +kernel
theorem d45 : decode yB 45 = .ok (.invokestatic 47, 3) := by decide +kernel
theorem d48 : decode yB 48 = .ok (.putfield 15, 3) := by decide +kernel
theorem d51 : decode yB 51 = .ok (.aload_n 0, 1) := by decide +kernel
theorem d52 : decode yB 52 = .ok (.aload 5, 2) := by decide +kernel
theorem d54 : decode yB 54 = .ok (.putfield 9, 3) := by decide +kernel
theorem d57 : decode yB 57 = .ok (.return_, 1) := by decide +kernel
def site : List Cond := [.fieldLink "java/lang/String" 38 "java/lang/String" "COMPACT_STRINGS" "Z", Cmp3.tab, CodL.tab, .laysFinal "java/lang/String" "java/lang/String" "value" "[B", .fieldLink "java/lang/String" 9 "java/lang/String" "value" "[B", .laysFinal "java/lang/String" "java/lang/String" "coder" "B", .fieldLink "java/lang/String" 15 "java/lang/String" "coder" "B"] ++ objW "java/lang/String" 1 ++ staticW "java/lang/String" 177 Cmp3.yN ++ staticW "java/lang/String" 47 CodL.yN
def tab : Cond := tabOf yN yB 6 none site
def P (a : Addr) (D : Cell) (fV fC : Field) (b : Addr) (A : Cell) (z : Int32) (o len : Nat) (args : Array Value) (s : State) : Prop := args = #[.ref a, .ref b, .int (Int32.ofNat o), .int (Int32.ofNat len), .null] ∧ Blank "java/lang/String" a D s ∧ Found "java/lang/String" "value" "[B" fV s ∧ Found "java/lang/String" "coder" "B" fC s ∧ Ch b A s ∧ StaticIs s "java/lang/String" "COMPACT_STRINGS" "Z" (.int z) ∧ ¬ z = 0 ∧ 0 < len ∧ o + len ≤ A.slots.size ∧ len ≤ 536870912 ∧ ∀ i, i < len → ¬ 255 < cv A (o + i)
def E (a : Addr) (D : Cell) (fV fC : Field) (A : Cell) (o len : Nat) (r : Option Value) (s u : State) : Prop := Got a D fV fC A o len r s u
/-- len > 0, no char of the range above 255: a Latin-1 String of their low bytes -/
theorem law (l : Launch) (a : Addr) (D : Cell) (fV fC : Field) (b : Addr) (A : Cell) (z : Int32) (o len : Nat) : Law l yN 5 4 2 35 yB 6 none site (P a D fV fC b A z o len) (E a D fV fC A o len) [⟨a, fC.slot⟩, ⟨a, fV.slot⟩] 1 len := by
  refine Law.of_walk (plainFor_of_name (by decide +kernel)) (by decide +kernel) (by decide +kernel) (by decide) (fun _ _ h => by rw [h.1]; rfl) (fun _ U U' hal hh h => ⟨h.1, h.2.1.mv hal hh, h.2.2.1.al hal, h.2.2.2.1.al hal, h.2.2.2.2.1.mv hal hh, h.2.2.2.2.2.1.there hal hh, h.2.2.2.2.2.2⟩) (fun r U U' V V' h1 hal h2 h => Got.mv r U U' V V' h1 hal h2 h) ?_
  intro p e s m args below meth c s₁ X0 hexec hbytes hml hret hlk hnm hown hh0 W hP
  obtain ⟨rfl, hB, f1, f2, hA, s1, hz, l0, l1, l2, hp⟩ := hP
  have a31 := hA.1.2.2.2
  have c1 : Steps p.tables e below (s₁.setTop (entryFrame m #[.ref a, .ref b, .int (Int32.ofNat o), .int (Int32.ofNat len), .null] 6)) (s₁.setTop (mkF m 0 #[.val (.ref a), .val (.ref b), .val (.int (Int32.ofNat o)), .val (.int (Int32.ofNat len)), .val .null, .unset] [])) := entry rfl
  have c2 : Steps p.tables e below (s₁.setTop (entryFrame m #[.ref a, .ref b, .int (Int32.ofNat o), .int (Int32.ofNat len), .null] 6)) (s₁.setTop (mkF m 1 #[.val (.ref a), .val (.ref b), .val (.int (Int32.ofNat o)), .val (.int (Int32.ofNat len)), .val .null, .unset] [.ref a])) := c1.trans (by
    refine XS.aloadN X0.here hexec rfl (hb hbytes d0) rfl rfl ?_
    exact Steps.refl _)
  obtain ⟨T3, X3, q3, st3⟩ := X0.oinit hexec hown (wks W (objW "java/lang/String" 1)) (g := (mkF m 1 #[.val (.ref a), .val (.ref b), .val (.int (Int32.ofNat o)), .val (.int (Int32.ofNat len)), .val .null, .unset] [.ref a])) rfl (by rw [hml]; rfl) (rest := []) rfl (hb hbytes d1) (W := 0) (by show 2 * 0 + 0 ≤ _; decide) (Nat.le_of_ble_eq_true rfl) (Nat.le_of_ble_eq_true rfl)
  have hh3 := q3.trans hh0
  have c4 : Steps p.tables e below (s₁.setTop (entryFrame m #[.ref a, .ref b, .int (Int32.ofNat o), .int (Int32.ofNat len), .null] 6)) (T3.setTop (mkF m 27 #[.val (.ref a), .val (.ref b), .val (.int (Int32.ofNat o)), .val (.int (Int32.ofNat len)), .val .null, .unset] [])) := (c2.trans (st3 _ (Steps.refl _))).trans (by
    refine XS.iloadN X3.here hexec rfl (hb hbytes d4) rfl ?_
    refine XS.ifYes X3.here hexec rfl (pc0 := 5) rfl (hb hbytes d5) rfl (i0_ne_t (nz32 (by omega) l0)) (by decide) rfl ?_
    exact Steps.refl _)
  obtain ⟨T5, X5, q5, st5⟩ := X3.sget hexec hown (wk W (.fieldLink "java/lang/String" 38 "java/lang/String" "COMPACT_STRINGS" "Z")) s1 (fun _ _ h => by rw [hh3]; exact h) (g := (mkF m 27 #[.val (.ref a), .val (.ref b), .val (.int (Int32.ofNat o)), .val (.int (Int32.ofNat len)), .val .null, .unset] [])) rfl (hb hbytes d27)
  have hh5 := q5.trans hh3
  have c6 : Steps p.tables e below (s₁.setTop (entryFrame m #[.ref a, .ref b, .int (Int32.ofNat o), .int (Int32.ofNat len), .null] 6)) (T5.setTop (mkF m 30 #[.val (.ref a), .val (.ref b), .val (.int (Int32.ofNat o)), .val (.int (Int32.ofNat len)), .val .null, .unset] [.int z])) := c4.trans (st5 _ (Steps.refl _))
  have c7 : Steps p.tables e below (s₁.setTop (entryFrame m #[.ref a, .ref b, .int (Int32.ofNat o), .int (Int32.ofNat len), .null] 6)) (T5.setTop (mkF m 36 #[.val (.ref a), .val (.ref b), .val (.int (Int32.ofNat o)), .val (.int (Int32.ofNat len)), .val .null, .unset] [.int (Int32.ofNat len), .int (Int32.ofNat o), .ref b])) := c6.trans (by
    refine XS.ifNo X5.here hexec rfl (hb hbytes d30) rfl (i0_eq_f hz) ?_
    refine XS.aloadN X5.here hexec rfl (hb hbytes d33) rfl rfl ?_
    refine XS.iloadN X5.here hexec rfl (hb hbytes d34) rfl ?_
    refine XS.iloadN X5.here hexec rfl (hb hbytes d35) rfl ?_
    exact Steps.refl _)
  obtain ⟨v8, T8, X8, E8, g8⟩ := X5.callS hexec (Cmp3.law l b A o len) hown (wks W (staticW "java/lang/String" 177 Cmp3.yN)) (wk W Cmp3.tab) (W := 0) (Nat.le_of_ble_eq_true rfl) (Nat.le_of_ble_eq_true rfl) (Nat.le_refl _) (by show 0 + len ≤ len; omega) (g := (mkF m 36 #[.val (.ref a), .val (.ref b), .val (.int (Int32.ofNat o)), .val (.int (Int32.ofNat len)), .val .null, .unset] [.int (Int32.ofNat len), .int (Int32.ofNat o), .ref b])) rfl (by rw [hml]; rfl) c7 (argsL := [.ref b, .int (Int32.ofNat o), .int (Int32.ofNat len)]) (rest := []) rfl rfl (by show 2 * 0 + 0 ≤ _; decide) (hb hbytes d36) (⟨rfl, hA.mv X5.warmed.alike hh5, l1, l2, hp⟩)
  obtain ⟨e8, z8⟩ := E8
  obtain ⟨rfl, N, n1, n2, n3, n4, n5, n6⟩ := NewArr.mv _ T5 s _ _ hh5.symm (Vm.Alike.refl _) rfl e8
  rw [hh5] at z8
  have hB1 := hB.keep X8.warmed.alike (n6 _ _ hB.1)
  have hne : s.heap.size ≠ a := (Nat.ne_of_lt (Array.getElem?_eq_some_iff.mp hB.1).1).symm
  have c9 : Steps p.tables e below (s₁.setTop (entryFrame m #[.ref a, .ref b, .int (Int32.ofNat o), .int (Int32.ofNat len), .null] 6)) (T8.setTop (mkF m 39 #[.val (.ref a), .val (.ref b), .val (.int (Int32.ofNat o)), .val (.int (Int32.ofNat len)), .val .null, .unset] [.ref s.heap.size])) := g8
  have c10 : Steps p.tables e below (s₁.setTop (entryFrame m #[.ref a, .ref b, .int (Int32.ofNat o), .int (Int32.ofNat len), .null] 6)) (T8.setTop (mkF m 45 #[.val (.ref a), .val (.ref b), .val (.int (Int32.ofNat o)), .val (.int (Int32.ofNat len)), .val .null, .val (.ref s.heap.size)] [.int (Int32.ofNat N.slots.size), .ref s.heap.size, .ref a])) := by
    have hc : Steps p.tables e below (s₁.setTop (entryFrame m #[.ref a, .ref b, .int (Int32.ofNat o), .int (Int32.ofNat len), .null] 6)) (T8.setTop (mkF m 45 #[.val (.ref a), .val (.ref b), .val (.int (Int32.ofNat o)), .val (.int (Int32.ofNat len)), .val .null, .val (.ref s.heap.size)] [.int (Int32.ofNat len), .ref s.heap.size, .ref a])) := c9.trans (by
      refine XS.astore X8.here hexec rfl (hb hbytes d39) rfl rfl rfl ?_
      refine XS.aloadN X8.here hexec rfl (hb hbytes d41) rfl rfl ?_
      refine XS.aload X8.here hexec rfl (hb hbytes d42) rfl rfl ?_
      refine XS.iloadN X8.here hexec rfl (hb hbytes d44) rfl ?_
      exact Steps.refl _)
    rw [n4]; exact hc
  obtain ⟨v11, T11, X11, E11, g11⟩ := X8.callS hexec (CodL.law l s.heap.size N) hown (wks W (staticW "java/lang/String" 47 CodL.yN)) (wk W CodL.tab) (W := 1) (Nat.le_of_ble_eq_true rfl) (Nat.le_of_ble_eq_true rfl) (Nat.le_refl _) (by show 0 + len + 0 ≤ len; omega) (g := (mkF m 45 #[.val (.ref a), .val (.ref b), .val (.int (Int32.ofNat o)), .val (.int (Int32.ofNat len)), .val .null, .val (.ref s.heap.size)] [.int (Int32.ofNat N.slots.size), .ref s.heap.size, .ref a])) rfl (by rw [hml]; rfl) c10 (argsL := [.ref s.heap.size, .int (Int32.ofNat N.slots.size)]) (rest := [.ref a]) rfl rfl (by show 2 * 0 + (1 + 0) ≤ _; decide) (hb hbytes d45) (⟨rfl, n1⟩)
  obtain ⟨rfl, q11⟩ := E11
  have hB11 := hB1.mv (X8.warmed.alike.symm.trans X11.warmed.alike) q11
  have c12 : Steps p.tables e below (s₁.setTop (entryFrame m #[.ref a, .ref b, .int (Int32.ofNat o), .int (Int32.ofNat len), .null] 6)) (T11.setTop (mkF m 48 #[.val (.ref a), .val (.ref b), .val (.int (Int32.ofNat o)), .val (.int (Int32.ofNat len)), .val .null, .val (.ref s.heap.size)] [.int 0, .ref a])) := g11
  obtain ⟨T13, X13, p13, bl13, sl13, st13⟩ := X11.finit hexec hown (wk W (.fieldLink "java/lang/String" 15 "java/lang/String" "coder" "B")) (Or.inr ⟨_, (wk W (.laysFinal "java/lang/String" "java/lang/String" "coder" "B"))⟩) (Or.inl ⟨rfl, hnm⟩) f2 (Or.inl rfl) hB11 (t := .byte) (by decide +kernel) rfl (g := (mkF m 48 #[.val (.ref a), .val (.ref b), .val (.int (Int32.ofNat o)), .val (.int (Int32.ofNat len)), .val .null, .val (.ref s.heap.size)] [.int 0, .ref a])) rfl (rest := []) rfl (hb hbytes d48)
  have c14 : Steps p.tables e below (s₁.setTop (entryFrame m #[.ref a, .ref b, .int (Int32.ofNat o), .int (Int32.ofNat len), .null] 6)) (T13.setTop (mkF m 54 #[.val (.ref a), .val (.ref b), .val (.int (Int32.ofNat o)), .val (.int (Int32.ofNat len)), .val .null, .val (.ref s.heap.size)] [.ref s.heap.size, .ref a])) := (c12.trans (st13 _ (Steps.refl _))).trans (by
    refine XS.aloadN X13.here hexec rfl (hb hbytes d51) rfl rfl ?_
    refine XS.aload X13.here hexec rfl (hb hbytes d52) rfl rfl ?_
    exact Steps.refl _)
  obtain ⟨T15, X15, p15, bl15, sl15, st15⟩ := X13.finit hexec hown (wk W (.fieldLink "java/lang/String" 9 "java/lang/String" "value" "[B")) (Or.inr ⟨_, (wk W (.laysFinal "java/lang/String" "java/lang/String" "value" "[B"))⟩) (Or.inl ⟨rfl, hnm⟩) f1 (Or.inl rfl) bl13 (t := (.array .byte)) (by decide +kernel) rfl (g := (mkF m 54 #[.val (.ref a), .val (.ref b), .val (.int (Int32.ofNat o)), .val (.int (Int32.ofNat len)), .val .null, .val (.ref s.heap.size)] [.ref s.heap.size, .ref a])) rfl (rest := []) rfl (hb hbytes d54)
  have c16 : Steps p.tables e below (s₁.setTop (entryFrame m #[.ref a, .ref b, .int (Int32.ofNat o), .int (Int32.ofNat len), .null] 6)) (T15.setTop (mkF m 57 #[.val (.ref a), .val (.ref b), .val (.int (Int32.ofNat o)), .val (.int (Int32.ofNat len)), .val .null, .val (.ref s.heap.size)] [])) := c14.trans (st15 _ (Steps.refl _))
  have ap := apart (Or.inr ⟨_, (wk W (.laysFinal "java/lang/String" "java/lang/String" "value" "[B"))⟩) (Or.inr ⟨_, (wk W (.laysFinal "java/lang/String" "java/lang/String" "coder" "B"))⟩) f1 f2 (t₁ := .array .byte) (t₂ := .byte) (by decide +kernel) (by decide +kernel) (by decide)
  have al := X8.warmed.alike.symm.trans X15.warmed.alike
  have n7 : T11.heap[s.heap.size]? = some N := by rw [q11]; exact n1.1
  exact ⟨T15, none, _, _, _, X15, by simp, rfl, by omega, (fun _ => rfl), ⟨rfl, _, N, bl15, ((Same.refl D _).set _ (by simp)).set _ (by simp), sl15, (Cell.slots_setSlot_ne _ ap).trans sl13, n1.keep al (p15.other hne (p13.other hne n7)), n2, by rw [al.findClass]; exact n3, n4, n5, fun y c h1 h2 => p15.other h1 (p13.other h1 (by rw [q11]; exact n6 y c h2)), by rw [p15.2.2, p13.2.2, q11]; exact z8⟩, fun fs hl => c16.trans (X15.returnOut hexec hret (hb hbytes d57) hl)⟩
end New4
namespace New1
def yN : MethodName := ⟨"java/lang/String", "<init>", "([C)V"⟩
abbrev yB : ByteArray := jdk_42_method_3_code
theorem d0 : decode yB 0 = .ok (.aload_n 0, 1) := by decide +kernel
theorem d1 : decode yB 1 = .ok (.aload_n 1, 1) := by decide +kernel
theorem d2 : decode yB 2 = .ok (.iconst 0, 1) := by decide +kernel
theorem d3 : decode yB 3 = .ok (.aload_n 1, 1) := by decide +kernel
theorem d4 : decode yB 4 = .ok (.arraylength, 1) := by decide +kernel
theorem d5 : decode yB 5 = .ok (.aconst_null, 1) := by decide +kernel
theorem d6 : decode yB 6 = .ok (.invokespecial 27, 3) := by decide +kernel
theorem d9 : decode yB 9 = .ok (.return_, 1) := by decide +kernel
def site : List Cond := [New4.tab] ++ initW "java/lang/String" 27 New4.yN
def tab : Cond := tabOf yN yB 2 none site
def P (a : Addr) (D : Cell) (fV fC : Field) (b : Addr) (A : Cell) (z : Int32) (args : Array Value) (s : State) : Prop := args = #[.ref a, .ref b] ∧ Blank "java/lang/String" a D s ∧ Found "java/lang/String" "value" "[B" fV s ∧ Found "java/lang/String" "coder" "B" fC s ∧ Ch b A s ∧ StaticIs s "java/lang/String" "COMPACT_STRINGS" "Z" (.int z) ∧ ¬ z = 0 ∧ 0 < A.slots.size ∧ A.slots.size ≤ 536870912 ∧ ∀ i, i < A.slots.size → ¬ 255 < cv A i
def E (a : Addr) (D : Cell) (fV fC : Field) (A : Cell) (r : Option Value) (s u : State) : Prop := Got a D fV fC A 0 A.slots.size r s u
/-- new String(chars), not empty, no char above 255: a Latin-1 String of their low bytes -/
theorem law (l : Launch) (a : Addr) (D : Cell) (fV fC : Field) (b : Addr) (A : Cell) (z : Int32) : Law l yN 2 1 3 52 yB 2 none site (P a D fV fC b A z) (E a D fV fC A) [⟨a, fC.slot⟩, ⟨a, fV.slot⟩] 1 A.slots.size := by
  refine Law.of_walk (plainFor_of_name (by decide +kernel)) (by decide +kernel) (by decide +kernel) (by decide) (fun _ _ h => by rw [h.1]; rfl) (fun _ U U' hal hh h => ⟨h.1, h.2.1.mv hal hh, h.2.2.1.al hal, h.2.2.2.1.al hal, h.2.2.2.2.1.mv hal hh, h.2.2.2.2.2.1.there hal hh, h.2.2.2.2.2.2⟩) (fun r U U' V V' h1 hal h2 h => Got.mv r U U' V V' h1 hal h2 h) ?_
  intro p e s m args below meth c s₁ X0 hexec hbytes hml hret hlk hnm hown hh0 W hP
  obtain ⟨rfl, hB, f1, f2, hA, s1, hz, l0, l2, hp⟩ := hP
  have c1 : Steps p.tables e below (s₁.setTop (entryFrame m #[.ref a, .ref b] 2)) (s₁.setTop (mkF m 0 #[.val (.ref a), .val (.ref b)] [])) := entry rfl
  have c2 : Steps p.tables e below (s₁.setTop (entryFrame m #[.ref a, .ref b] 2)) (s₁.setTop (mkF m 6 #[.val (.ref a), .val (.ref b)] [.null, .int (Int32.ofNat A.slots.size), .int 0, .ref b, .ref a])) := c1.trans (by
    refine XS.aloadN X0.here hexec rfl (hb hbytes d0) rfl rfl ?_
    refine XS.aloadN X0.here hexec rfl (hb hbytes d1) rfl rfl ?_
    refine iconstV X0.here hexec rfl 0 (hb hbytes d2) (by decide) ?_
    refine XS.aloadN X0.here hexec rfl (hb hbytes d3) rfl rfl ?_
    refine X0.alen hexec (hA.1.mv X0.warmed.alike hh0) rfl rfl (hb hbytes d4) ?_
    refine XS.aconstNull X0.here hexec rfl (hb hbytes d5) ?_
    exact Steps.refl _)
  obtain ⟨v3, T3, X3, E3, g3⟩ := X0.callN hexec (New4.law l a D fV fC b A z 0 A.slots.size) rfl hown (wks W (initW "java/lang/String" 27 New4.yN)) (W New4.tab (by simp only [site, List.mem_cons, List.mem_append, true_or, or_true])) (W := 0) (Nat.le_of_ble_eq_true rfl) (Nat.le_of_ble_eq_true rfl) (Nat.le_refl _) (by show 0 + A.slots.size ≤ A.slots.size; omega) (g := (mkF m 6 #[.val (.ref a), .val (.ref b)] [.null, .int (Int32.ofNat A.slots.size), .int (Int32.ofNat 0), .ref b, .ref a])) rfl (by rw [hml]; rfl) c2 (argsL := [.ref b, .int (Int32.ofNat 0), .int (Int32.ofNat A.slots.size), .null]) (rest := []) rfl rfl (by show 2 * 0 + 0 ≤ _; decide) (hb hbytes d6) (⟨rfl, hB.mv X0.warmed.alike hh0, f1.al X0.warmed.alike, f2.al X0.warmed.alike, hA.mv X0.warmed.alike hh0, s1.there X0.warmed.alike hh0, hz, l0, by omega, l2, fun i hi => by rw [Nat.zero_add]; exact hp i hi⟩)
  have e0 := Got.mv _ s₁ s _ _ hh0.symm (Vm.Alike.refl _) rfl E3
  obtain rfl := e0.1
  have c4 : Steps p.tables e below (s₁.setTop (entryFrame m #[.ref a, .ref b] 2)) (T3.setTop (mkF m 9 #[.val (.ref a), .val (.ref b)] [])) := g3
  exact ⟨T3, none, _, _, _, X3, by simp, rfl, by omega, (fun _ => rfl), e0, fun fs hl => c4.trans (X3.returnOut hexec hret (hb hbytes d9) hl)⟩
theorem pays {l : Launch} {R : Room} {p : Program} {e : Env} {below : List Frame} {s : State} {sargs : Array Value} {len W : Nat} (a : Addr) (D : Cell) (fV fC : Field) (b : Addr) (A : Cell) (z : Int32) (htab : tab.before sargs s = true) (hfr : 4 ≤ R.frames) (hlo : W + 65 ≤ R.locals) :
    Back l R p e below s sargs yN len W (fun A₁ a₁ => A₁.cells + 1 ≤ R.cells ∧ A₁.slots + A.slots.size ≤ R.slots ∧ P a D fV fC b A z a₁ A₁.U) (fun A₁ _ v₁ B₁ => E a D fV fC A v₁ A₁.U B₁.U ∧ B₁.locs = A₁.locs ++ [⟨a, fC.slot⟩, ⟨a, fV.slot⟩] ∧ B₁.cells = A₁.cells + 1 ∧ B₁.slots = A₁.slots + A.slots.size) :=
  (law l a D fV fC b A z).pays htab hfr (by omega)
end New1
end StrChars
namespace StrChars.Road
open Jvm Sem ClassFile Op Lib Jvm.Stand Jvm.Free Jvm.Free.XT
open Jvm.Lib.Cold (StaticIs)
abbrev ST : String := "java/lang/String"
/-- every table word that New1's law asks, flat -/
abbrev words : List Jvm.Cond := [.code New1.yN New1.yB 2 none, .initialized ST, .methodLink ST 27 New4.yN, .instanceMethod New4.yN,
  .code New4.yN New4.yB 6 none, .fieldLink ST 38 ST "COMPACT_STRINGS" "Z", .laysFinal ST ST "value" "[B", .fieldLink ST 9 ST "value" "[B", .laysFinal ST ST "coder" "B", .fieldLink ST 15 ST "coder" "B",
  .methodLink ST 1 Lib.objectInit, .instanceMethod Lib.objectInit, .code Lib.objectInit ⟨#[0xb1]⟩ 1 none, .methodLink ST 177 Cmp3.yN, .static Cmp3.yN, .methodLink ST 47 CodL.yN, .static CodL.yN,
  .code Cmp3.yN Cmp3.yB 6 (some (.array .byte)), .initialized U16, .arrayClass .byte, .methodLink U16 115 Cmp5.yN, .static Cmp5.yN, .code Cmp5.yN Cmp5.yB 7 (some .int), .code CodL.yN CodL.yB 2 (some .byte)]
theorem tab_of {a : Array Value} {s : State} (h : ∀ w ∈ words, w.before a s = true) : New1.tab.before a s = true := by
  have h5 : Cmp5.tab.before a s = true := unparts (wk h (.code Cmp5.yN Cmp5.yB 7 (some .int))) (wks h (.initialized Cmp5.yN.cls :: Cmp5.site))
  have hc : CodL.tab.before a s = true := unparts (wk h (.code CodL.yN CodL.yB 2 (some .byte))) (wks h (.initialized CodL.yN.cls :: CodL.site))
  have q5 : ∀ w ∈ Cmp5.tab :: words, w.before a s = true := fun w hw => (List.mem_cons.mp hw).elim (fun e => e ▸ h5) (h w)
  have h3 : Cmp3.tab.before a s = true := unparts (wk q5 (.code Cmp3.yN Cmp3.yB 6 (some (.array .byte)))) (wks q5 (.initialized Cmp3.yN.cls :: Cmp3.site))
  have q3 : ∀ w ∈ Cmp3.tab :: CodL.tab :: words, w.before a s = true := fun w hw => (List.mem_cons.mp hw).elim (fun e => e ▸ h3) fun hw => (List.mem_cons.mp hw).elim (fun e => e ▸ hc) (h w)
  have h4 : New4.tab.before a s = true := unparts (wk q3 (.code New4.yN New4.yB 6 none)) (wks q3 (.initialized New4.yN.cls :: New4.site))
  have q4 : ∀ w ∈ New4.tab :: words, w.before a s = true := fun w hw => (List.mem_cons.mp hw).elim (fun e => e ▸ h4) (h w)
  exact unparts (wk q4 (.code New1.yN New1.yB 2 none)) (wks q4 (.initialized New1.yN.cls :: New1.site))
/-- the words ride from the start Z to the walk's own state -/
theorem moved {Z s : State} {a0 args : Array Value} (hZ : Z.Warmed39 s.vm) (hw : ∀ d ∈ words, d.before a0 Z = true) : ∀ d ∈ words, d.before args s = true := fun d hd => by
  have q := hw d hd
  have t : ∀ d ∈ words, d = .arrayClass .byte ∨ (d.onTables && d.keepsFace) = true := by decide +kernel
  rcases t d hd with rfl | t
  · exact RoadKit.mvA hZ q
  · exact RoadKit.mv hZ q t
/-- WHAT COMES BACK, over the tables of the start Z: h the heap at the call, h' behind it -/
def Q (Z : State) (x : Addr) (A : Cell) (h : Heap) (v : Option Value) (h' : Heap) (L : List Loc) : Prop := v = none ∧ (∀ y ∈ L, y.base = x) ∧ RoadKit.Keep h h' [x] ∧ h'.size = h.size + 1 ∧ RoadKit.Exa Z h' x ST ∧ RoadKit.Fld Z h' x ST "value" "[B" (.ref h.size) ∧ RoadKit.Fld Z h' x ST "coder" "B" (.int 0) ∧
  (∃ V : Cell, RoadKit.Arr Z h' h.size V .byte ∧ V.vm = .none ∧ Z.vm.findClass "[B" = some V.cls ∧ V.slots.size = A.slots.size ∧ ∀ j, j < A.slots.size → V.slots[j]? = some (.int (lo8 (cv A j)))) ∧
  ∀ (O n d : String) (w : Value), RoadKit.Fld Z h x O n d w → RoadKit.slotOf Z O n d ≠ RoadKit.slotOf Z ST "value" "[B" → RoadKit.slotOf Z O n d ≠ RoadKit.slotOf Z ST "coder" "B" → RoadKit.Fld Z h' x O n d w
/-- **new String(chars) AT A CALL, IN THE ROAD'S FORM**: for specialBack behind newO: x the fresh String, b the char[] with the cell A -/
theorem back {p : Program} {l : Launch} {e : Env} {R : Room} {s : State} {args : Array Value} {below : List Frame} {len W : Nat} {Z : State} {a0 : Array Value} {h : Heap} (hZ : Z.Warmed39 s.vm) (hw : ∀ d ∈ words, d.before a0 Z = true) {kI : Nat} (wi : (Jvm.Cond.instantiable ST kI).before a0 Z = true)
    {x b : Addr} {A : Cell} {z : Int32} {v0 c0 : Value} (E : RoadKit.Exa Z h x ST) (V : RoadKit.Fld Z h x ST "value" "[B" v0) (C : RoadKit.Fld Z h x ST "coder" "B" c0) (K : RoadKit.Arr Z h b A .char) (hty : Typed .char A) (S : RoadKit.Sta Z h ST "COMPACT_STRINGS" "Z" (.int z)) (hz : ¬ z = 0)
    (l0 : 0 < A.slots.size) (l2 : A.slots.size ≤ 536870912) (hp : ∀ i, i < A.slots.size → ¬ 255 < cv A i) (hfr : 4 ≤ R.frames) (hlo : W + 65 ≤ R.locals) :
    Back l R p e below s args New1.yN len W (fun P a => a = #[.ref x, .ref b] ∧ P.U.heap = h ∧ P.cells + 1 ≤ R.cells ∧ P.slots + A.slots.size ≤ R.slots)
      (fun P _ v B => ∃ L, Q Z x A h v B.U.heap L ∧ B.locs = P.locs ++ L ∧ B.cells = P.cells + 1 ∧ B.slots = P.slots + A.slots.size) := by
  intro m meth c P g ig mk a X hg hsize hdg hW hn hp'
  obtain ⟨rfl, rfl, r1, r2⟩ := hp'
  have al : Z.vm.Alike P.U.vm := hZ.alike.trans X.warmed.alike
  obtain ⟨D, cfV, kV, iV, fV, hD, gV, stV, knV, obV, asV, slV⟩ := id V
  obtain ⟨D', cfC, kC, iC, fC, hD', gC, stC, -, -, asC, slC⟩ := id C
  cases hD.symm.trans hD'
  obtain ⟨D2, kD, e1, e2, e3, e4, e5⟩ := id E
  cases hD.symm.trans e1
  obtain ⟨c2, k2, i1, i2, i3, -⟩ := Cond.instantiable_spec wi
  cases e2.symm.trans i1
  cases e3.symm.trans i2
  obtain ⟨kU, u1, u2⟩ := al.2.2 _ _ e3
  have hB : Blank ST x D P.U := ⟨hD, ⟨knV, fun q hq => by rw [hq] at obV; cases obV⟩, by rw [al.findClass]; exact e2, kU, u1, by rw [u2]; exact i3, by rw [u2]; exact e5 i3⟩
  have F1 : Found ST "value" "[B" fV P.U := ⟨SBG.found_only al ⟨cfV, kV, iV, gV⟩, stV⟩
  have F2 : Found ST "coder" "B" fC P.U := ⟨SBG.found_only al ⟨cfC, kC, iC, gC⟩, stC⟩
  have hA : Ch b A P.U := ⟨⟨K.1, State.isArrayOf_alike al K.2.1, K.2.2, by omega⟩, hty⟩
  have hS : StaticIs P.U ST "COMPACT_STRINGS" "Z" (.int z) := by
    obtain ⟨cfS, iS, kS, fS, st, cS, t1, t2, t3, t4, t5, t6, t7⟩ := S
    exact StaticIs.there (s := { Z with heap := P.U.heap }) ⟨cfS, iS, kS, fS, st, cS, t1, t2, t3, t4, t5, (fun q => by rw [q] at t6; cases t6), t7⟩ al rfl
  obtain ⟨v, B, X', ⟨⟨hv, E', V', q1, q2, q3, q4, q5, q6, q7, q8, q9, q10, q11⟩, hl, hc, hs⟩, st⟩ := New1.pays x D fV fC b A z (tab_of (moved hZ hw)) hfr hlo m meth c P g ig mk _ X hg hsize hdg hW hn ⟨r1, r2, rfl, hB, F1, F2, hA, hS, hz, l0, l2, hp⟩
  have al' : Z.vm.Alike B.U.vm := hZ.alike.trans X'.warmed.alike
  have hsz : E'.slots.size = D.slots.size := by
    obtain ⟨-, -, -, kB, w1, w2, w3⟩ := q1
    obtain ⟨kB', y1, y2⟩ := al'.2.2 _ _ e3
    rw [q2.2.1] at w1
    cases w1.symm.trans y1
    rw [w3, e5 i3, y2]
  refine ⟨v, B, X', ⟨_, ⟨hv, ?_, ⟨by omega, fun y cy hy hn' => q10 y cy (by simpa using hn') hy, fun y cy hy => ?_⟩, q11, ⟨E', _, q1.1, by rw [q2.2.1]; exact e2, by rw [q2.2.1]; exact e3, by rw [q2.1]; exact obV, fun _ => by rw [hsz]; exact e5 i3⟩,
    ⟨E', cfV, kV, iV, fV, q1.1, gV, stV, by rw [q2.1]; exact knV, by rw [q2.1]; exact obV, by rw [q2.2.1]; exact asV, q3⟩, ⟨E', cfC, kC, iC, fC, q1.1, gC, stC, by rw [q2.1]; exact knV, by rw [q2.1]; exact obV, by rw [q2.2.1]; exact asC, q4⟩,
    ⟨V', ⟨q5.1, State.isArrayOf_alike al'.symm q5.2.1, q5.2.2.1⟩, q6, by rw [← al'.findClass]; exact q7, q8, fun j hj => by have := q9 j hj; rwa [Nat.zero_add] at this⟩, fun O n d w F n1 n2 => ?_⟩, hl, hc, hs⟩, st⟩
  · intro y hy
    simp only [List.mem_cons, List.not_mem_nil, or_false] at hy
    rcases hy with rfl | rfl <;> rfl
  · by_cases q : y = x
    · subst q
      cases hD.symm.trans hy
      exact ⟨E', q1.1, q2.2.1, q2.1, hsz⟩
    · exact ⟨cy, q10 y cy q hy, rfl, rfl, rfl⟩
  · obtain ⟨D3, cf, k, i, f, g1, g2, g3, g4, g5, g6, g7⟩ := F
    cases hD.symm.trans g1
    simp only [RoadKit.slotOf, g2, gV, gC, Option.map_some, Option.getD_some] at n1 n2
    exact ⟨E', cf, k, i, f, q1.1, g2, g3, by rw [q2.1]; exact g4, by rw [q2.1]; exact g5, by rw [q2.2.1]; exact g6, by rw [q2.2.2 f.slot (by simp [n1, n2])]; exact g7⟩
end StrChars.Road
namespace StrChars.Road
open Jvm Sem ClassFile Op Lib Jvm.Stand Jvm.Free Jvm.Free.XT
/-- WHAT COMES BACK, the byte[] as a list of values -/
def QA (Z : State) (x : Addr) (zn : Int32) (cs : List Int32) (h : Heap) (v : Option Value) (h' : Heap) (L : List Loc) : Prop := v = none ∧ (∀ y ∈ L, y.base = x) ∧ RoadKit.Keep h h' [x] ∧ h'.size = h.size + 1 ∧ RoadKit.Exa Z h' x ST ∧ RoadKit.Fld Z h' x ST "value" "[B" (.ref h.size) ∧ RoadKit.Fld Z h' x ST "coder" "B" (.int 0) ∧
  (∃ kb, Z.vm.findClass "[B" = some kb ∧ RoadKit.Arv Z h' h.size kb .byte zn (cs.map fun c => .int (lo8 c)) (.int 0)) ∧
  ∀ (O n d : String) (w : Value), RoadKit.Fld Z h x O n d w → RoadKit.slotOf Z O n d ≠ RoadKit.slotOf Z ST "value" "[B" → RoadKit.slotOf Z O n d ≠ RoadKit.slotOf Z ST "coder" "B" → RoadKit.Fld Z h' x O n d w
/-- **new String(chars) AT A CALL, THE ARRAYS AS LISTS**: the char[] at b holds cs, not empty, no char above 255 -/
theorem backArv {p : Program} {l : Launch} {e : Env} {R : Room} {s : State} {args : Array Value} {below : List Frame} {len W : Nat} {Z : State} {a0 : Array Value} {h : Heap} (hZ : Z.Warmed39 s.vm) (hw : ∀ d ∈ words, d.before a0 Z = true) {kI : Nat} (wi : (Jvm.Cond.instantiable ST kI).before a0 Z = true)
    {x b : Addr} {k : ClassId} {zn z : Int32} {cs : List Int32} {dv v0 c0 : Value} (E : RoadKit.Exa Z h x ST) (V : RoadKit.Fld Z h x ST "value" "[B" v0) (C : RoadKit.Fld Z h x ST "coder" "B" c0) (K : RoadKit.Arv Z h b k .char zn (cs.map Value.int) dv) (S : RoadKit.Sta Z h ST "COMPACT_STRINGS" "Z" (.int z)) (hz : ¬ z = 0)
    (hlen : zn.toNatClampNeg = cs.length) (h0 : 0 < cs.length) (hbig : cs.length ≤ 536870912) (hall : ∀ c ∈ cs, ¬ 255 < c) (hfr : 4 ≤ R.frames) (hlo : W + 65 ≤ R.locals) :
    Back l R p e below s args New1.yN len W (fun P a => a = #[.ref x, .ref b] ∧ P.U.heap = h ∧ P.cells + 1 ≤ R.cells ∧ P.slots + cs.length ≤ R.slots)
      (fun P _ v B => ∃ L, QA Z x zn cs h v B.U.heap L ∧ B.locs = P.locs ++ L ∧ B.cells = P.cells + 1 ∧ B.slots = P.slots + cs.length) := by
  obtain ⟨A, K1, K2, K3, K4, K5, K6⟩ := K
  have e : A.slots.size = cs.length := K3.trans hlen
  have hat : ∀ (i : Nat) (hi : i < cs.length), A.slots[i]? = some (.int cs[i]) := fun i hi => by rw [K5 i (by omega)]; simp [List.getD_eq_getElem?_getD, hi]
  have hcv : ∀ (i : Nat) (hi : i < cs.length), cv A i = cs[i] := fun i hi => by unfold cv; rw [hat i hi]
  have hty : Typed .char A := fun i v hv => by
    have hi : i < A.slots.size := (Array.getElem?_eq_some_iff.mp hv).1
    have q := K5 i hi
    rw [hv] at q
    rw [Option.some.inj q]
    exact K6 i hi
  refine Back.mono (back hZ hw wi E V C K1 hty S hz (by omega) (by omega) (fun i hi => by rw [hcv i (by omega)]; exact hall _ (List.getElem_mem _)) hfr hlo) (fun P a hp => ⟨hp.1, hp.2.1, hp.2.2.1, by rw [e]; exact hp.2.2.2⟩) (fun P a v B hp hq => ?_)
  obtain ⟨L, ⟨q1, q2, q3, q4, q5, q6, q7, ⟨V', v1, v2, v3, v4, v5⟩, q9⟩, hl, hc, hs⟩ := hq
  refine ⟨L, ⟨q1, q2, q3, q4, q5, q6, q7, ⟨V'.cls, v3, V', v1, rfl, by rw [v4, e, hlen], K4, fun i hi => ?_, fun i hi => ?_⟩, q9⟩, hl, hc, by rw [hs, e]⟩
  · have hi' : i < cs.length := by omega
    rw [v5 i (by omega), hcv i hi']; simp [List.getD_eq_getElem?_getD, hi']
  · have hi' : i < cs.length := by omega
    simp only [List.getD_eq_getElem?_getD, List.getElem?_map, List.getElem?_eq_getElem hi', Option.map_some, Option.getD_some]
    exact fits_lo8 _
end StrChars.Road
namespace StrChars.Road
open Jvm Sem ClassFile Op Lib Jvm.Stand Jvm.Free Jvm.Free.XT
/-- WHAT COMES BACK, in the writer's own shape -/
def QV (Z : State) (x : Addr) (N : Int32) (bs : List Int32) (h : Heap) (n0 : Nat) (v : Option Value) (h' : Heap) (L : List Loc) : Prop := v = none ∧ RoadKit.Fr n0 L ∧ RoadKit.Keep h h' [x] ∧ RoadKit.Exa Z h' x ST ∧ RoadKit.Fld Z h' x ST "coder" "B" (.int 0) ∧
  ∃ (t : Addr) (kb : ClassId), n0 ≤ t ∧ h.size ≤ t ∧ ¬ t = x ∧ RoadKit.Fld Z h' x ST "value" "[B" (.ref t) ∧ RoadKit.Arv Z h' t kb .byte N (bs.map Value.int) (.int 0)
/-- **new String(chars) AT A CALL, FOR THE WRITER**: a char[] of n known ints, each 0 to 255 -/
theorem backV {p : Program} {l : Launch} {e : Env} {R : Room} {s : State} {args : Array Value} {below : List Frame} {len W : Nat} {Z : State} {a0 : Array Value} {h : Heap} (hZ : Z.Warmed39 s.vm) (hw : ∀ d ∈ words, d.before a0 Z = true) {kI : Nat} (wi : (Jvm.Cond.instantiable ST kI).before a0 Z = true)
    {x b : Addr} {kC : ClassId} {cs bs : List Int32} {d v0 c0 : Value} {z N : Int32} {n n0 : Nat} (hx0 : n0 ≤ x) (hh0 : n0 ≤ h.size) (E : RoadKit.Exa Z h x ST) (V : RoadKit.Fld Z h x ST "value" "[B" v0) (C : RoadKit.Fld Z h x ST "coder" "B" c0) (K : RoadKit.Arv Z h b kC .char N (cs.map Value.int) d) (S : RoadKit.Sta Z h ST "COMPACT_STRINGS" "Z" (.int z)) (hz : ¬ z = 0)
    (hn : cs.length = n) (hN : N = Int32.ofNat n) (l0 : 0 < n) (l2 : n ≤ 4000) (hp : ∀ c ∈ cs, ¬ c < 0 ∧ ¬ (255 : Int32) < c) (hb : bs = cs.map (fun c => c.toInt8.toInt32)) (hfr : 4 ≤ R.frames) (hlo : W + 65 ≤ R.locals) :
    Back l R p e below s args (⟨"java/lang/String", "<init>", "([C)V"⟩ : MethodName) len W (fun P a => a = #[.ref x, .ref b] ∧ P.U.heap = h ∧ P.cells + 1 ≤ R.cells ∧ P.slots + n ≤ R.slots)
      (fun P _ v B => ∃ L, QV Z x N bs h n0 v B.U.heap L ∧ B.locs = P.locs ++ L ∧ B.cells = P.cells + 1 ∧ B.slots = P.slots + n) := by
  subst hn hN hb
  refine Back.mono (backArv hZ hw wi E V C K S hz (n32 (by omega)) l0 (by omega) (fun c hc => (hp c hc).2) hfr hlo) (fun P a hp => hp) (fun P a v B hp hq => ?_)
  obtain ⟨L, ⟨q1, q2, q3, q4, q5, q6, q7, ⟨kb, v1, v2⟩, q9⟩, hl, hc, hs⟩ := hq
  exact ⟨L, ⟨q1, fun y hy => by rw [q2 y hy]; exact hx0, q3, q5, q7, h.size, kb, hh0, Nat.le_refl _, Nat.ne_of_gt E.lt, q6, by rw [List.map_map]; exact v2⟩, hl, hc, hs⟩
end StrChars.Road
end Jvm.Pilot.@@N@@
namespace Jvm.Pilot.@@N@@
open Jvm Jvm.ClassFile Sem Op Lib Jvm.Free Jvm.Stand Jvm.LawKit Jvm.RoadKit Bundle Jvm.Pilot.@@N@@.Jvm.D
/-! general: a run that comes to its end with what Q says -/
def own_G (tb : Tables) (e : Env) (below : List Frame) (S : State) (s : State) (C N : Nat) (Q : Option Value → Heap → List Loc → Prop) : Prop :=
  ∃ t o, Steps tb e below S t ∧ t.status = .running ∧ Ended t below o ∧ ∃ v L, o = .returned v ∧ Q v t.heap L ∧ FrameEnd s o t L C N
def own_P (n0 : Nat) (h0 : Heap) (w : Option Value) (v : Option Value) (h : Heap) (L : List Loc) : Prop := v = w ∧ Fr n0 L ∧ h = h0
section Own
variable {tb : Tables} {p : Program} {l : Launch} {e : Env} {R : Room} {s : State} {m : MethodId} {args : Array Value} {below : List Frame} {meth : Method} {c : Code} {T S S' : State} {locs : List Loc} {cells slots C N n0 : Nat} {h0 : Heap} {Q : Option Value → Heap → List Loc → Prop}
theorem own_go (h : ∀ t, Steps tb e below S' t → Steps tb e below S t) (k : own_G tb e below S' s C N Q) : own_G tb e below S s C N Q := by
  obtain ⟨t, o, a, b⟩ := k
  exact ⟨t, o, h t a, b⟩
theorem own_tr (h : Steps tb e below S S') (k : own_G tb e below S' s C N Q) : own_G tb e below S s C N Q := by
  obtain ⟨t, o, a, b⟩ := k
  exact ⟨t, o, h.trans a, b⟩
theorem own_itI {P : Prop} [Decidable P] {A B : Int32} (h : P) (k : own_G tb e below S s C N (own_P n0 h0 (some (.int A)))) : own_G tb e below S s C N (own_P n0 h0 (some (.int (if P then A else B)))) := by rw [if_pos h]; exact k
theorem own_ifI {P : Prop} [Decidable P] {A B : Int32} (h : ¬ P) (k : own_G tb e below S s C N (own_P n0 h0 (some (.int B)))) : own_G tb e below S s C N (own_P n0 h0 (some (.int (if P then A else B)))) := by rw [if_neg h]; exact k
theorem own_itJ {P : Prop} [Decidable P] {A B : Int64} (h : P) (k : own_G tb e below S s C N (own_P n0 h0 (some (.long A)))) : own_G tb e below S s C N (own_P n0 h0 (some (.long (if P then A else B)))) := by rw [if_pos h]; exact k
theorem own_ifJ {P : Prop} [Decidable P] {A B : Int64} (h : ¬ P) (k : own_G tb e below S s C N (own_P n0 h0 (some (.long B)))) : own_G tb e below S s C N (own_P n0 h0 (some (.long (if P then A else B)))) := by rw [if_neg h]; exact k
theorem own_endO {w : Value} {t : FieldType} {i : Instr} (X : Stand p l e R s m args below meth c T locs cells slots) (hx : p.tables.exec = Jvm.exec) (hlk : meth.locks = false) {pc : Nat} {Ls : Array Slot} {rest : List Value} (hret : meth.sig.returnType = some t) (hn : narrow t w = w)
    (hi : (i = .ireturn ∧ (t = .int ∨ t = .boolean ∨ t = .byte ∨ t = .char ∨ t = .short) ∧ ∃ z, w = .int z) ∨ (i = .lreturn ∧ t = .long ∧ ∃ z, w = .long z) ∨ (i = .dreturn ∧ t = .double ∧ ∃ z, w = .double z) ∨ (i = .freturn ∧ t = .float ∧ ∃ z, w = .float z) ∨ (i = .areturn ∧ t.isReference = true ∧ w.isRef = true))
    (hd : decode c.code pc = .ok (i, 1)) (hC : cells ≤ C) (hN : slots ≤ N) (hQ : Q (some w) T.heap locs) : own_G p.tables e below (T.setTop (mkF m pc Ls (w :: rest))) s C N Q := by
  obtain ⟨fs, hr, hrun, hended, hW, hsame⟩ := X.leave (v := some w) (fun h => by rw [hret] at h; cases h) hlk
  exact ⟨_, _, retOut X hx hret hn hi hd hr, hrun, hended, _, _, rfl, hQ, ⟨_, rfl⟩, hW, hsame.mono hC hN⟩
theorem own_endI {z : Int32} (X : Stand p l e R s m args below meth c T locs cells slots) (hx : p.tables.exec = Jvm.exec) (hlk : meth.locks = false) {pc : Nat} {Ls : Array Slot} {rest : List Value} (hret : meth.sig.returnType = some .int)
    (hd : decode c.code pc = .ok (.ireturn, 1)) (hC : cells ≤ C) (hN : slots ≤ N) (hQ : Q (some (.int z)) T.heap locs) : own_G p.tables e below (T.setTop (mkF m pc Ls (.int z :: rest))) s C N Q :=
  own_endO X hx hlk hret rfl (Or.inl ⟨rfl, Or.inl rfl, z, rfl⟩) hd hC hN hQ
theorem own_endJ {z : Int64} (X : Stand p l e R s m args below meth c T locs cells slots) (hx : p.tables.exec = Jvm.exec) (hlk : meth.locks = false) {pc : Nat} {Ls : Array Slot} {rest : List Value} (hret : meth.sig.returnType = some .long)
    (hd : decode c.code pc = .ok (.lreturn, 1)) (hC : cells ≤ C) (hN : slots ≤ N) (hQ : Q (some (.long z)) T.heap locs) : own_G p.tables e below (T.setTop (mkF m pc Ls (.long z :: rest))) s C N Q :=
  own_endO X hx hlk hret rfl (Or.inr (Or.inl ⟨rfl, rfl, z, rfl⟩)) hd hC hN hQ
theorem own_endR {w : Value} {t : FieldType} (X : Stand p l e R s m args below meth c T locs cells slots) (hx : p.tables.exec = Jvm.exec) (hlk : meth.locks = false) {pc : Nat} {Ls : Array Slot} {rest : List Value} (hret : meth.sig.returnType = some t) (hn : narrow t w = w) (ht : t.isReference = true) (hw : w.isRef = true)
    (hd : decode c.code pc = .ok (.areturn, 1)) (hC : cells ≤ C) (hN : slots ≤ N) (hQ : Q (some w) T.heap locs) : own_G p.tables e below (T.setTop (mkF m pc Ls (w :: rest))) s C N Q :=
  own_endO X hx hlk hret hn (Or.inr (Or.inr (Or.inr (Or.inr ⟨rfl, ht, hw⟩)))) hd hC hN hQ
theorem own_endN {z : Int32} {t : FieldType} (X : Stand p l e R s m args below meth c T locs cells slots) (hx : p.tables.exec = Jvm.exec) (hlk : meth.locks = false) {pc : Nat} {Ls : Array Slot} {rest : List Value} (hret : meth.sig.returnType = some t) (ht : t = .boolean ∨ t = .byte ∨ t = .char ∨ t = .short)
    (hd : decode c.code pc = .ok (.ireturn, 1)) (hC : cells ≤ C) (hN : slots ≤ N) (hQ : Q (some (.int (nar t z))) T.heap locs) : own_G p.tables e below (T.setTop (mkF m pc Ls (.int z :: rest))) s C N Q := by
  obtain ⟨fs, hr, hrun, hended, hW, hsame⟩ := X.leave (v := some (.int (nar t z))) (fun h => by rw [hret] at h; cases h) hlk
  exact ⟨_, _, retN X hx hret ht hd hr, hrun, hended, _, _, rfl, hQ, ⟨_, rfl⟩, hW, hsame.mono hC hN⟩
theorem own_endV (X : Stand p l e R s m args below meth c T locs cells slots) (hx : p.tables.exec = Jvm.exec) (hlk : meth.locks = false) {pc : Nat} {Ls : Array Slot} (hret : meth.sig.returnType = none)
    (hd : decode c.code pc = .ok (.return_, 1)) (hC : cells ≤ C) (hN : slots ≤ N) (hQ : Q none T.heap locs) : own_G p.tables e below (T.setTop (mkF m pc Ls [])) s C N Q := by
  obtain ⟨fs, hr, hrun, hended, hW, hsame⟩ := X.leave (v := none) (fun _ => rfl) hlk
  exact ⟨_, _, X.returnOut hx hret hd hr, hrun, hended, _, _, rfl, hQ, ⟨_, rfl⟩, hW, hsame.mono hC hN⟩
end Own
theorem own_words : ∀ d ∈ StrChars.Road.words, d ∈ tables_1 := by decide +kernel
theorem d1_0 : decode method_3_code 0 = .ok (.iload_n 1, 1) := by decide +kernel
theorem d1_1 : decode method_3_code 1 = .ok (.iconst 1, 1) := by decide +kernel
theorem d1_2 : decode method_3_code 2 = .ok (.if_icmp .ne 10, 3) := by decide +kernel
theorem d1_5 : decode method_3_code 5 = .ok (.iload_n 0, 1) := by decide +kernel
theorem d1_6 : decode method_3_code 6 = .ok (.ifCond .ne 6, 3) := by decide +kernel
theorem d1_9 : decode method_3_code 9 = .ok (.bipush 45, 2) := by decide +kernel
theorem d1_11 : decode method_3_code 11 = .ok (.ireturn, 1) := by decide +kernel
theorem d1_12 : decode method_3_code 12 = .ok (.iload_n 0, 1) := by decide +kernel
theorem d1_13 : decode method_3_code 13 = .ok (.iload_n 1, 1) := by decide +kernel
theorem d1_14 : decode method_3_code 14 = .ok (.isub, 1) := by decide +kernel
theorem d1_15 : decode method_3_code 15 = .ok (.istore 6, 2) := by decide +kernel
theorem d1_17 : decode method_3_code 17 = .ok (.iload_n 2, 1) := by decide +kernel
theorem d1_18 : decode method_3_code 18 = .ok (.ifCond .le 12, 3) := by decide +kernel
theorem d1_21 : decode method_3_code 21 = .ok (.iload 6, 2) := by decide +kernel
theorem d1_23 : decode method_3_code 23 = .ok (.iload_n 2, 1) := by decide +kernel
theorem d1_24 : decode method_3_code 24 = .ok (.if_icmp .ne 6, 3) := by decide +kernel
theorem d1_27 : decode method_3_code 27 = .ok (.bipush 46, 2) := by decide +kernel
theorem d1_29 : decode method_3_code 29 = .ok (.ireturn, 1) := by decide +kernel
theorem d1_30 : decode method_3_code 30 = .ok (.lload 4, 2) := by decide +kernel
theorem d1_32 : decode method_3_code 32 = .ok (.iconst 4, 1) := by decide +kernel
theorem d1_33 : decode method_3_code 33 = .ok (.iload 6, 2) := by decide +kernel
theorem d1_35 : decode method_3_code 35 = .ok (.imul, 1) := by decide +kernel
theorem d1_36 : decode method_3_code 36 = .ok (.lushr, 1) := by decide +kernel
theorem d1_37 : decode method_3_code 37 = .ok (.ldc2_w 29, 3) := by decide +kernel
theorem d1_40 : decode method_3_code 40 = .ok (.land, 1) := by decide +kernel
theorem d1_41 : decode method_3_code 41 = .ok (.l2i, 1) := by decide +kernel
theorem d1_42 : decode method_3_code 42 = .ok (.istore 7, 2) := by decide +kernel
theorem d1_44 : decode method_3_code 44 = .ok (.iload 6, 2) := by decide +kernel
theorem d1_46 : decode method_3_code 46 = .ok (.ifCond .ne 8, 3) := by decide +kernel
theorem d1_49 : decode method_3_code 49 = .ok (.iload_n 2, 1) := by decide +kernel
theorem d1_50 : decode method_3_code 50 = .ok (.iconst 1, 1) := by decide +kernel
theorem d1_51 : decode method_3_code 51 = .ok (.if_icmp .ne 15, 3) := by decide +kernel
theorem d1_54 : decode method_3_code 54 = .ok (.iload_n 2, 1) := by decide +kernel
theorem d1_55 : decode method_3_code 55 = .ok (.ifCond .le 15, 3) := by decide +kernel
theorem d1_58 : decode method_3_code 58 = .ok (.iload 6, 2) := by decide +kernel
theorem d1_60 : decode method_3_code 60 = .ok (.iload_n 3, 1) := by decide +kernel
theorem d1_61 : decode method_3_code 61 = .ok (.iconst 1, 1) := by decide +kernel
theorem d1_62 : decode method_3_code 62 = .ok (.isub, 1) := by decide +kernel
theorem d1_63 : decode method_3_code 63 = .ok (.if_icmp .ne 7, 3) := by decide +kernel
theorem d1_66 : decode method_3_code 66 = .ok (.iconst 1, 1) := by decide +kernel
theorem d1_67 : decode method_3_code 67 = .ok (.goto 4, 3) := by decide +kernel
theorem d1_70 : decode method_3_code 70 = .ok (.iconst 0, 1) := by decide +kernel
theorem d1_71 : decode method_3_code 71 = .ok (.istore 8, 2) := by decide +kernel
theorem d1_73 : decode method_3_code 73 = .ok (.iload 8, 2) := by decide +kernel
theorem d1_75 : decode method_3_code 75 = .ok (.ifCond .eq 13, 3) := by decide +kernel
theorem d1_78 : decode method_3_code 78 = .ok (.iconst 1, 1) := by decide +kernel
theorem d1_79 : decode method_3_code 79 = .ok (.iload 7, 2) := by decide +kernel
theorem d1_81 : decode method_3_code 81 = .ok (.bipush 9, 2) := by decide +kernel
theorem d1_83 : decode method_3_code 83 = .ok (.irem, 1) := by decide +kernel
theorem d1_84 : decode method_3_code 84 = .ok (.iadd, 1) := by decide +kernel
theorem d1_85 : decode method_3_code 85 = .ok (.goto 8, 3) := by decide +kernel
theorem d1_88 : decode method_3_code 88 = .ok (.iload 7, 2) := by decide +kernel
theorem d1_90 : decode method_3_code 90 = .ok (.bipush 10, 2) := by decide +kernel
theorem d1_92 : decode method_3_code 92 = .ok (.irem, 1) := by decide +kernel
theorem d1_93 : decode method_3_code 93 = .ok (.istore 9, 2) := by decide +kernel
theorem d1_95 : decode method_3_code 95 = .ok (.bipush 48, 2) := by decide +kernel
theorem d1_97 : decode method_3_code 97 = .ok (.iload 9, 2) := by decide +kernel
theorem d1_99 : decode method_3_code 99 = .ok (.iadd, 1) := by decide +kernel
theorem d1_100 : decode method_3_code 100 = .ok (.i2c, 1) := by decide +kernel
theorem d1_101 : decode method_3_code 101 = .ok (.ireturn, 1) := by decide +kernel
def own_ch_93 (p0 : Int32) (p1 : Int32) (p2 : Int32) (p3 : Int32) (p4 : Int64) (v6 : Int32) (v7 : Int32) (v8 : Int32) (w0 : Int32) : Int32 := (nar .char ((48 : Int32) + w0).toUInt32.toUInt16.toUInt32.toInt32)
def own_ch_71 (p0 : Int32) (p1 : Int32) (p2 : Int32) (p3 : Int32) (p4 : Int64) (v6 : Int32) (v7 : Int32) (w0 : Int32) : Int32 := (if w0 = (0 : Int32) then (own_ch_93 p0 p1 p2 p3 p4 v6 v7 w0 (v7 % (10 : Int32))) else (own_ch_93 p0 p1 p2 p3 p4 v6 v7 w0 ((1 : Int32) + (v7 % (9 : Int32)))))
def own_ch_70 (p0 : Int32) (p1 : Int32) (p2 : Int32) (p3 : Int32) (p4 : Int64) (v6 : Int32) (v7 : Int32) : Int32 := (own_ch_71 p0 p1 p2 p3 p4 v6 v7 (0 : Int32))
def own_ch_66 (p0 : Int32) (p1 : Int32) (p2 : Int32) (p3 : Int32) (p4 : Int64) (v6 : Int32) (v7 : Int32) : Int32 := (own_ch_71 p0 p1 p2 p3 p4 v6 v7 (1 : Int32))
def own_ch_54 (p0 : Int32) (p1 : Int32) (p2 : Int32) (p3 : Int32) (p4 : Int64) (v6 : Int32) (v7 : Int32) : Int32 := (if (0 : Int32) < p2 then (if v6 = (p3 - (1 : Int32)) then (own_ch_66 p0 p1 p2 p3 p4 v6 v7) else (own_ch_70 p0 p1 p2 p3 p4 v6 v7)) else (own_ch_70 p0 p1 p2 p3 p4 v6 v7))
def own_ch_30 (p0 : Int32) (p1 : Int32) (p2 : Int32) (p3 : Int32) (p4 : Int64) (v6 : Int32) : Int32 := (if v6 = (0 : Int32) then (if p2 = (1 : Int32) then (own_ch_54 p0 p1 p2 p3 p4 v6 (((p4.toUInt64 >>> (((4 : Int32) * v6) &&& 0x3f).toInt64.toUInt64).toInt64) &&& (15 : Int64)).toInt32) else (own_ch_66 p0 p1 p2 p3 p4 v6 (((p4.toUInt64 >>> (((4 : Int32) * v6) &&& 0x3f).toInt64.toUInt64).toInt64) &&& (15 : Int64)).toInt32)) else (own_ch_54 p0 p1 p2 p3 p4 v6 (((p4.toUInt64 >>> (((4 : Int32) * v6) &&& 0x3f).toInt64.toUInt64).toInt64) &&& (15 : Int64)).toInt32))
def own_ch_12 (p0 : Int32) (p1 : Int32) (p2 : Int32) (p3 : Int32) (p4 : Int64)  : Int32 := (if (0 : Int32) < p2 then (if (p0 - p1) = p2 then (nar .char (46 : Int32)) else (own_ch_30 p0 p1 p2 p3 p4 (p0 - p1))) else (own_ch_30 p0 p1 p2 p3 p4 (p0 - p1)))
def own_ch (p0 : Int32) (p1 : Int32) (p2 : Int32) (p3 : Int32) (p4 : Int64) : Int32 := (if p1 = (1 : Int32) then (if p0 = (0 : Int32) then (nar .char (45 : Int32)) else (own_ch_12 p0 p1 p2 p3 p4 )) else (own_ch_12 p0 p1 p2 p3 p4 ))
theorem pn_0 : plainName "com/example/hence/hence/reasoning/DecimalIsIntegerPinLaw" = true := by first | (simp [plainName, overriddenIn]; done) | decide +kernel
theorem ef_1 (m : MethodId) (p0 : Int32) (p1 : Int32) (p2 : Int32) (p3 : Int32) (p4 : Int64) : entryFrame m #[(.int p0), (.int p1), (.int p2), (.int p3), (.long p4)] 10 = mkF m 0 #[.val (.int p0), .val (.int p1), .val (.int p2), .val (.int p3), .val (.long p4), .second, .unset, .unset, .unset, .unset] [] := by first | (simp [entryFrame, mkF, argsToLocals, Value.category]; done) | rfl
set_option maxRecDepth 65536 in
set_option maxHeartbeats 40000000 in
theorem rm1 (l : Launch) (Z : State) (a0 : Array Value) (hw : ∀ d ∈ tables_1, d.before a0 Z = true) (ws : List Jvm.Cond) (p0 : Int32) (p1 : Int32) (p2 : Int32) (p3 : Int32) (p4 : Int64) (h0 : Heap) (n0 : Nat) :
    MetFree l (⟨"com/example/hence/hence/reasoning/DecimalIsIntegerPinLaw", "ch", "(IIIIJ)C"⟩ : MethodName) (head1 (Jvm.Cond.code (⟨"com/example/hence/hence/reasoning/DecimalIsIntegerPinLaw", "ch", "(IIIIJ)C"⟩ : MethodName) method_3_code 10 (some .char) :: ws) ({ frames := 0, cells := 0, slots := 0, locals := 0 } : Room)) (fun a U => a = #[(.int p0), (.int p1), (.int p2), (.int p3), (.long p4)] ∧ Z.Warmed39 U.vm ∧ U.heap = h0) (fun _ _ _ _ _ => True) (fun _ U o U' => ∃ v L, o = .returned v ∧ (own_P n0 h0 (some (.int (own_ch p0 p1 p2 p3 p4)))) v U'.heap L ∧ FrameEnd U o U' L ({ frames := 0, cells := 0, slots := 0, locals := 0 } : Room).cells ({ frames := 0, cells := 0, slots := 0, locals := 0 } : Room).slots) := by
  refine MetFree.of_bodySF (plainFor_of_name pn_0) hisR ?_
  intro p e s m args below meth c s₁ Bd hml0 hP hK
  obtain ⟨rfl, hZ, hh⟩ := hP
  have hx := Bd.exec
  have hby := Bd.bytes
  have hml : c.maxLocals = 10 := hml0
  have hown : s.vm.findClass "com/example/hence/hence/reasoning/DecimalIsIntegerPinLaw" = some m.cls := findClass_of_methodNamed Bd.named
  have hnm := (name_of_methodNamed Bd.named Bd.method).1
  have hlk : meth.locks = false := BodyLoose.notSynchronized Bd
  have X0 : Stand p l e ({ frames := 0, cells := 0, slots := 0, locals := 0 } : Room) s m #[(.int p0), (.int p1), (.int p2), (.int p3), (.long p4)] below meth c s₁ [] 0 0 := Stand.of_body Bd
  have e0 : s₁.heap = h0 := by rw [← hh, Bd.state]; rfl
  have N0 := Fr.nil n0
  have J93 : ∀ (T : State) (Lc : List Loc) (X : Stand p l e ({ frames := 0, cells := 0, slots := 0, locals := 0 } : Room) s m #[(.int p0), (.int p1), (.int p2), (.int p3), (.long p4)] below meth c T Lc 0 0) (eT : T.heap = h0) (N : Fr n0 Lc) (v6 : Int32) (v7 : Int32) (v8 : Int32) (w0 : Int32) , own_G p.tables e below (T.setTop (mkF m 93 #[.val (.int p0), .val (.int p1), .val (.int p2), .val (.int p3), .val (.long p4), .second, .val (.int v6), .val (.int v7), .val (.int v8), .unset] [(.int w0)])) s ({ frames := 0, cells := 0, slots := 0, locals := 0 } : Room).cells ({ frames := 0, cells := 0, slots := 0, locals := 0 } : Room).slots (own_P n0 h0 (some (.int (own_ch_93 p0 p1 p2 p3 p4 v6 v7 v8 w0)))) := by
    intro T Lc X eT N v6 v7 v8 w0 
    show own_G _ _ _ _ _ _ _ (own_P n0 h0 (some (.int ((nar .char ((48 : Int32) + w0).toUInt32.toUInt16.toUInt32.toInt32)))))
    refine own_go (fun _ k => XS.istore X.here hx rfl (hb hby d1_93) rfl (l' := #[.val (.int p0), .val (.int p1), .val (.int p2), .val (.int p3), .val (.long p4), .second, .val (.int v6), .val (.int v7), .val (.int v8), .val (.int w0)]) rfl k) ?_
    show own_G _ _ _ (T.setTop (mkF m 95 #[.val (.int p0), .val (.int p1), .val (.int p2), .val (.int p3), .val (.long p4), .second, .val (.int v6), .val (.int v7), .val (.int v8), .val (.int w0)] [])) _ _ _ _
    refine own_go (fun _ k => XS.bipush X.here hx rfl (hb hby d1_95) k) ?_
    show own_G _ _ _ (T.setTop (mkF m 97 #[.val (.int p0), .val (.int p1), .val (.int p2), .val (.int p3), .val (.long p4), .second, .val (.int v6), .val (.int v7), .val (.int v8), .val (.int w0)] [(.int (48 : Int32))])) _ _ _ _
    refine own_go (fun _ k => XS.iload X.here hx rfl (hb hby d1_97) rfl k) ?_
    show own_G _ _ _ (T.setTop (mkF m 99 #[.val (.int p0), .val (.int p1), .val (.int p2), .val (.int p3), .val (.long p4), .second, .val (.int v6), .val (.int v7), .val (.int v8), .val (.int w0)] [(.int w0), (.int (48 : Int32))])) _ _ _ _
    refine own_go (fun _ k => XS.iadd X.here hx rfl (hb hby d1_99) rfl k) ?_
    show own_G _ _ _ (T.setTop (mkF m 100 #[.val (.int p0), .val (.int p1), .val (.int p2), .val (.int p3), .val (.long p4), .second, .val (.int v6), .val (.int v7), .val (.int v8), .val (.int w0)] [(.int ((48 : Int32) + w0))])) _ _ _ _
    refine own_go (fun _ k => XS.i2c X.here hx rfl (hb hby d1_100) rfl k) ?_
    show own_G _ _ _ (T.setTop (mkF m 101 #[.val (.int p0), .val (.int p1), .val (.int p2), .val (.int p3), .val (.long p4), .second, .val (.int v6), .val (.int v7), .val (.int v8), .val (.int w0)] [(.int ((48 : Int32) + w0).toUInt32.toUInt16.toUInt32.toInt32)])) _ _ _ _
    exact own_endN X hx hlk (t := .char) Bd.returns (by simp) (hb hby d1_101) (by decide) (by decide) ⟨rfl, N, eT⟩
  have J71 : ∀ (T : State) (Lc : List Loc) (X : Stand p l e ({ frames := 0, cells := 0, slots := 0, locals := 0 } : Room) s m #[(.int p0), (.int p1), (.int p2), (.int p3), (.long p4)] below meth c T Lc 0 0) (eT : T.heap = h0) (N : Fr n0 Lc) (v6 : Int32) (v7 : Int32) (w0 : Int32) , own_G p.tables e below (T.setTop (mkF m 71 #[.val (.int p0), .val (.int p1), .val (.int p2), .val (.int p3), .val (.long p4), .second, .val (.int v6), .val (.int v7), .unset, .unset] [(.int w0)])) s ({ frames := 0, cells := 0, slots := 0, locals := 0 } : Room).cells ({ frames := 0, cells := 0, slots := 0, locals := 0 } : Room).slots (own_P n0 h0 (some (.int (own_ch_71 p0 p1 p2 p3 p4 v6 v7 w0)))) := by
    intro T Lc X eT N v6 v7 w0 
    show own_G _ _ _ _ _ _ _ (own_P n0 h0 (some (.int ((if w0 = (0 : Int32) then (own_ch_93 p0 p1 p2 p3 p4 v6 v7 w0 (v7 % (10 : Int32))) else (own_ch_93 p0 p1 p2 p3 p4 v6 v7 w0 ((1 : Int32) + (v7 % (9 : Int32)))))))))
    refine own_go (fun _ k => XS.istore X.here hx rfl (hb hby d1_71) rfl (l' := #[.val (.int p0), .val (.int p1), .val (.int p2), .val (.int p3), .val (.long p4), .second, .val (.int v6), .val (.int v7), .val (.int w0), .unset]) rfl k) ?_
    show own_G _ _ _ (T.setTop (mkF m 73 #[.val (.int p0), .val (.int p1), .val (.int p2), .val (.int p3), .val (.long p4), .second, .val (.int v6), .val (.int v7), .val (.int w0), .unset] [])) _ _ _ _
    refine own_go (fun _ k => XS.iload X.here hx rfl (hb hby d1_73) rfl k) ?_
    show own_G _ _ _ (T.setTop (mkF m 75 #[.val (.int p0), .val (.int p1), .val (.int p2), .val (.int p3), .val (.long p4), .second, .val (.int v6), .val (.int v7), .val (.int w0), .unset] [(.int w0)])) _ _ _ _
    by_cases hc1 : w0 = (0 : Int32)
    · refine own_itI hc1 ?_
      refine own_go (fun _ k => XS.ifYes X.here hx rfl (pc0 := 75) (pc' := 88) rfl (hb hby d1_75) rfl ((if0 _ _).trans (teq hc1).1) (by decide) (by decide) k) ?_
      show own_G _ _ _ (T.setTop (mkF m 88 #[.val (.int p0), .val (.int p1), .val (.int p2), .val (.int p3), .val (.long p4), .second, .val (.int v6), .val (.int v7), .val (.int w0), .unset] [])) _ _ _ _
      refine own_go (fun _ k => XS.iload X.here hx rfl (hb hby d1_88) rfl k) ?_
      show own_G _ _ _ (T.setTop (mkF m 90 #[.val (.int p0), .val (.int p1), .val (.int p2), .val (.int p3), .val (.long p4), .second, .val (.int v6), .val (.int v7), .val (.int w0), .unset] [(.int v7)])) _ _ _ _
      refine own_go (fun _ k => XS.bipush X.here hx rfl (hb hby d1_90) k) ?_
      show own_G _ _ _ (T.setTop (mkF m 92 #[.val (.int p0), .val (.int p1), .val (.int p2), .val (.int p3), .val (.long p4), .second, .val (.int v6), .val (.int v7), .val (.int w0), .unset] [(.int (10 : Int32)), (.int v7)])) _ _ _ _
      refine own_go (fun _ k => iremM X hx rfl (hb hby d1_92) rfl (by decide) k) ?_
      show own_G _ _ _ (T.setTop (mkF m 93 #[.val (.int p0), .val (.int p1), .val (.int p2), .val (.int p3), .val (.long p4), .second, .val (.int v6), .val (.int v7), .val (.int w0), .unset] [(.int (v7 % (10 : Int32)))])) _ _ _ _
      exact J93 _ _ X eT N v6 v7 w0 (v7 % (10 : Int32)) 
    · refine own_ifI hc1 ?_
      refine own_go (fun _ k => XS.ifNo X.here hx rfl (hb hby d1_75) rfl ((if0 _ _).trans (feq hc1).1) k) ?_
      show own_G _ _ _ (T.setTop (mkF m 78 #[.val (.int p0), .val (.int p1), .val (.int p2), .val (.int p3), .val (.long p4), .second, .val (.int v6), .val (.int v7), .val (.int w0), .unset] [])) _ _ _ _
      refine own_go (fun _ k => XS.iconst X.here hx rfl (hb hby d1_78) k) ?_
      show own_G _ _ _ (T.setTop (mkF m 79 #[.val (.int p0), .val (.int p1), .val (.int p2), .val (.int p3), .val (.long p4), .second, .val (.int v6), .val (.int v7), .val (.int w0), .unset] [(.int (1 : Int32))])) _ _ _ _
      refine own_go (fun _ k => XS.iload X.here hx rfl (hb hby d1_79) rfl k) ?_
      show own_G _ _ _ (T.setTop (mkF m 81 #[.val (.int p0), .val (.int p1), .val (.int p2), .val (.int p3), .val (.long p4), .second, .val (.int v6), .val (.int v7), .val (.int w0), .unset] [(.int v7), (.int (1 : Int32))])) _ _ _ _
      refine own_go (fun _ k => XS.bipush X.here hx rfl (hb hby d1_81) k) ?_
      show own_G _ _ _ (T.setTop (mkF m 83 #[.val (.int p0), .val (.int p1), .val (.int p2), .val (.int p3), .val (.long p4), .second, .val (.int v6), .val (.int v7), .val (.int w0), .unset] [(.int (9 : Int32)), (.int v7), (.int (1 : Int32))])) _ _ _ _
      refine own_go (fun _ k => iremM X hx rfl (hb hby d1_83) rfl (by decide) k) ?_
      show own_G _ _ _ (T.setTop (mkF m 84 #[.val (.int p0), .val (.int p1), .val (.int p2), .val (.int p3), .val (.long p4), .second, .val (.int v6), .val (.int v7), .val (.int w0), .unset] [(.int (v7 % (9 : Int32))), (.int (1 : Int32))])) _ _ _ _
      refine own_go (fun _ k => XS.iadd X.here hx rfl (hb hby d1_84) rfl k) ?_
      show own_G _ _ _ (T.setTop (mkF m 85 #[.val (.int p0), .val (.int p1), .val (.int p2), .val (.int p3), .val (.long p4), .second, .val (.int v6), .val (.int v7), .val (.int w0), .unset] [(.int ((1 : Int32) + (v7 % (9 : Int32))))])) _ _ _ _
      refine own_go (fun _ k => XS.goto X.here hx rfl (pc0 := 85) (pc' := 93) rfl (hb hby d1_85) (by decide) (by decide) k) ?_
      show own_G _ _ _ (T.setTop (mkF m 93 #[.val (.int p0), .val (.int p1), .val (.int p2), .val (.int p3), .val (.long p4), .second, .val (.int v6), .val (.int v7), .val (.int w0), .unset] [(.int ((1 : Int32) + (v7 % (9 : Int32))))])) _ _ _ _
      exact J93 _ _ X eT N v6 v7 w0 ((1 : Int32) + (v7 % (9 : Int32))) 
  have J70 : ∀ (T : State) (Lc : List Loc) (X : Stand p l e ({ frames := 0, cells := 0, slots := 0, locals := 0 } : Room) s m #[(.int p0), (.int p1), (.int p2), (.int p3), (.long p4)] below meth c T Lc 0 0) (eT : T.heap = h0) (N : Fr n0 Lc) (v6 : Int32) (v7 : Int32) , own_G p.tables e below (T.setTop (mkF m 70 #[.val (.int p0), .val (.int p1), .val (.int p2), .val (.int p3), .val (.long p4), .second, .val (.int v6), .val (.int v7), .unset, .unset] [])) s ({ frames := 0, cells := 0, slots := 0, locals := 0 } : Room).cells ({ frames := 0, cells := 0, slots := 0, locals := 0 } : Room).slots (own_P n0 h0 (some (.int (own_ch_70 p0 p1 p2 p3 p4 v6 v7)))) := by
    intro T Lc X eT N v6 v7 
    show own_G _ _ _ _ _ _ _ (own_P n0 h0 (some (.int ((own_ch_71 p0 p1 p2 p3 p4 v6 v7 (0 : Int32))))))
    refine own_go (fun _ k => XS.iconst X.here hx rfl (hb hby d1_70) k) ?_
    show own_G _ _ _ (T.setTop (mkF m 71 #[.val (.int p0), .val (.int p1), .val (.int p2), .val (.int p3), .val (.long p4), .second, .val (.int v6), .val (.int v7), .unset, .unset] [(.int (0 : Int32))])) _ _ _ _
    exact J71 _ _ X eT N v6 v7 (0 : Int32) 
  have J66 : ∀ (T : State) (Lc : List Loc) (X : Stand p l e ({ frames := 0, cells := 0, slots := 0, locals := 0 } : Room) s m #[(.int p0), (.int p1), (.int p2), (.int p3), (.long p4)] below meth c T Lc 0 0) (eT : T.heap = h0) (N : Fr n0 Lc) (v6 : Int32) (v7 : Int32) , own_G p.tables e below (T.setTop (mkF m 66 #[.val (.int p0), .val (.int p1), .val (.int p2), .val (.int p3), .val (.long p4), .second, .val (.int v6), .val (.int v7), .unset, .unset] [])) s ({ frames := 0, cells := 0, slots := 0, locals := 0 } : Room).cells ({ frames := 0, cells := 0, slots := 0, locals := 0 } : Room).slots (own_P n0 h0 (some (.int (own_ch_66 p0 p1 p2 p3 p4 v6 v7)))) := by
    intro T Lc X eT N v6 v7 
    show own_G _ _ _ _ _ _ _ (own_P n0 h0 (some (.int ((own_ch_71 p0 p1 p2 p3 p4 v6 v7 (1 : Int32))))))
    refine own_go (fun _ k => XS.iconst X.here hx rfl (hb hby d1_66) k) ?_
    show own_G _ _ _ (T.setTop (mkF m 67 #[.val (.int p0), .val (.int p1), .val (.int p2), .val (.int p3), .val (.long p4), .second, .val (.int v6), .val (.int v7), .unset, .unset] [(.int (1 : Int32))])) _ _ _ _
    refine own_go (fun _ k => XS.goto X.here hx rfl (pc0 := 67) (pc' := 71) rfl (hb hby d1_67) (by decide) (by decide) k) ?_
    show own_G _ _ _ (T.setTop (mkF m 71 #[.val (.int p0), .val (.int p1), .val (.int p2), .val (.int p3), .val (.long p4), .second, .val (.int v6), .val (.int v7), .unset, .unset] [(.int (1 : Int32))])) _ _ _ _
    exact J71 _ _ X eT N v6 v7 (1 : Int32) 
  have J54 : ∀ (T : State) (Lc : List Loc) (X : Stand p l e ({ frames := 0, cells := 0, slots := 0, locals := 0 } : Room) s m #[(.int p0), (.int p1), (.int p2), (.int p3), (.long p4)] below meth c T Lc 0 0) (eT : T.heap = h0) (N : Fr n0 Lc) (v6 : Int32) (v7 : Int32) , own_G p.tables e below (T.setTop (mkF m 54 #[.val (.int p0), .val (.int p1), .val (.int p2), .val (.int p3), .val (.long p4), .second, .val (.int v6), .val (.int v7), .unset, .unset] [])) s ({ frames := 0, cells := 0, slots := 0, locals := 0 } : Room).cells ({ frames := 0, cells := 0, slots := 0, locals := 0 } : Room).slots (own_P n0 h0 (some (.int (own_ch_54 p0 p1 p2 p3 p4 v6 v7)))) := by
    intro T Lc X eT N v6 v7 
    show own_G _ _ _ _ _ _ _ (own_P n0 h0 (some (.int ((if (0 : Int32) < p2 then (if v6 = (p3 - (1 : Int32)) then (own_ch_66 p0 p1 p2 p3 p4 v6 v7) else (own_ch_70 p0 p1 p2 p3 p4 v6 v7)) else (own_ch_70 p0 p1 p2 p3 p4 v6 v7))))))
    refine own_go (fun _ k => XS.iloadN X.here hx rfl (hb hby d1_54) rfl k) ?_
    show own_G _ _ _ (T.setTop (mkF m 55 #[.val (.int p0), .val (.int p1), .val (.int p2), .val (.int p3), .val (.long p4), .second, .val (.int v6), .val (.int v7), .unset, .unset] [(.int p2)])) _ _ _ _
    by_cases hc2 : (0 : Int32) < p2
    · refine own_itI hc2 ?_
      refine own_go (fun _ k => XS.ifNo X.here hx rfl (hb hby d1_55) rfl ((if0 _ _).trans (tlt hc2).2.2.2) k) ?_
      show own_G _ _ _ (T.setTop (mkF m 58 #[.val (.int p0), .val (.int p1), .val (.int p2), .val (.int p3), .val (.long p4), .second, .val (.int v6), .val (.int v7), .unset, .unset] [])) _ _ _ _
      refine own_go (fun _ k => XS.iload X.here hx rfl (hb hby d1_58) rfl k) ?_
      show own_G _ _ _ (T.setTop (mkF m 60 #[.val (.int p0), .val (.int p1), .val (.int p2), .val (.int p3), .val (.long p4), .second, .val (.int v6), .val (.int v7), .unset, .unset] [(.int v6)])) _ _ _ _
      refine own_go (fun _ k => XS.iloadN X.here hx rfl (hb hby d1_60) rfl k) ?_
      show own_G _ _ _ (T.setTop (mkF m 61 #[.val (.int p0), .val (.int p1), .val (.int p2), .val (.int p3), .val (.long p4), .second, .val (.int v6), .val (.int v7), .unset, .unset] [(.int p3), (.int v6)])) _ _ _ _
      refine own_go (fun _ k => XS.iconst X.here hx rfl (hb hby d1_61) k) ?_
      show own_G _ _ _ (T.setTop (mkF m 62 #[.val (.int p0), .val (.int p1), .val (.int p2), .val (.int p3), .val (.long p4), .second, .val (.int v6), .val (.int v7), .unset, .unset] [(.int (1 : Int32)), (.int p3), (.int v6)])) _ _ _ _
      refine own_go (fun _ k => XS.isub X.here hx rfl (hb hby d1_62) rfl k) ?_
      show own_G _ _ _ (T.setTop (mkF m 63 #[.val (.int p0), .val (.int p1), .val (.int p2), .val (.int p3), .val (.long p4), .second, .val (.int v6), .val (.int v7), .unset, .unset] [(.int (p3 - (1 : Int32))), (.int v6)])) _ _ _ _
      by_cases hc3 : v6 = (p3 - (1 : Int32))
      · refine own_itI hc3 ?_
        refine own_go (fun _ k => XS.icmpNo X.here hx rfl (hb hby d1_63) rfl (teq hc3).2 k) ?_
        show own_G _ _ _ (T.setTop (mkF m 66 #[.val (.int p0), .val (.int p1), .val (.int p2), .val (.int p3), .val (.long p4), .second, .val (.int v6), .val (.int v7), .unset, .unset] [])) _ _ _ _
        exact J66 _ _ X eT N v6 v7 
      · refine own_ifI hc3 ?_
        refine own_go (fun _ k => XS.icmpYes X.here hx rfl (pc0 := 63) (pc' := 70) rfl (hb hby d1_63) rfl (feq hc3).2 (by decide) (by decide) k) ?_
        show own_G _ _ _ (T.setTop (mkF m 70 #[.val (.int p0), .val (.int p1), .val (.int p2), .val (.int p3), .val (.long p4), .second, .val (.int v6), .val (.int v7), .unset, .unset] [])) _ _ _ _
        exact J70 _ _ X eT N v6 v7 
    · refine own_ifI hc2 ?_
      refine own_go (fun _ k => XS.ifYes X.here hx rfl (pc0 := 55) (pc' := 70) rfl (hb hby d1_55) rfl ((if0 _ _).trans (flt hc2).2.2.2) (by decide) (by decide) k) ?_
      show own_G _ _ _ (T.setTop (mkF m 70 #[.val (.int p0), .val (.int p1), .val (.int p2), .val (.int p3), .val (.long p4), .second, .val (.int v6), .val (.int v7), .unset, .unset] [])) _ _ _ _
      exact J70 _ _ X eT N v6 v7 
  have J30 : ∀ (T : State) (Lc : List Loc) (X : Stand p l e ({ frames := 0, cells := 0, slots := 0, locals := 0 } : Room) s m #[(.int p0), (.int p1), (.int p2), (.int p3), (.long p4)] below meth c T Lc 0 0) (eT : T.heap = h0) (N : Fr n0 Lc) (v6 : Int32) , own_G p.tables e below (T.setTop (mkF m 30 #[.val (.int p0), .val (.int p1), .val (.int p2), .val (.int p3), .val (.long p4), .second, .val (.int v6), .unset, .unset, .unset] [])) s ({ frames := 0, cells := 0, slots := 0, locals := 0 } : Room).cells ({ frames := 0, cells := 0, slots := 0, locals := 0 } : Room).slots (own_P n0 h0 (some (.int (own_ch_30 p0 p1 p2 p3 p4 v6)))) := by
    intro T Lc X eT N v6 
    show own_G _ _ _ _ _ _ _ (own_P n0 h0 (some (.int ((if v6 = (0 : Int32) then (if p2 = (1 : Int32) then (own_ch_54 p0 p1 p2 p3 p4 v6 (((p4.toUInt64 >>> (((4 : Int32) * v6) &&& 0x3f).toInt64.toUInt64).toInt64) &&& (15 : Int64)).toInt32) else (own_ch_66 p0 p1 p2 p3 p4 v6 (((p4.toUInt64 >>> (((4 : Int32) * v6) &&& 0x3f).toInt64.toUInt64).toInt64) &&& (15 : Int64)).toInt32)) else (own_ch_54 p0 p1 p2 p3 p4 v6 (((p4.toUInt64 >>> (((4 : Int32) * v6) &&& 0x3f).toInt64.toUInt64).toInt64) &&& (15 : Int64)).toInt32))))))
    refine own_go (fun _ k => XS.lload X.here hx rfl (hb hby d1_30) rfl k) ?_
    show own_G _ _ _ (T.setTop (mkF m 32 #[.val (.int p0), .val (.int p1), .val (.int p2), .val (.int p3), .val (.long p4), .second, .val (.int v6), .unset, .unset, .unset] [(.long p4)])) _ _ _ _
    refine own_go (fun _ k => XS.iconst X.here hx rfl (hb hby d1_32) k) ?_
    show own_G _ _ _ (T.setTop (mkF m 33 #[.val (.int p0), .val (.int p1), .val (.int p2), .val (.int p3), .val (.long p4), .second, .val (.int v6), .unset, .unset, .unset] [(.int (4 : Int32)), (.long p4)])) _ _ _ _
    refine own_go (fun _ k => XS.iload X.here hx rfl (hb hby d1_33) rfl k) ?_
    show own_G _ _ _ (T.setTop (mkF m 35 #[.val (.int p0), .val (.int p1), .val (.int p2), .val (.int p3), .val (.long p4), .second, .val (.int v6), .unset, .unset, .unset] [(.int v6), (.int (4 : Int32)), (.long p4)])) _ _ _ _
    refine own_go (fun _ k => XS.imul X.here hx rfl (hb hby d1_35) rfl k) ?_
    show own_G _ _ _ (T.setTop (mkF m 36 #[.val (.int p0), .val (.int p1), .val (.int p2), .val (.int p3), .val (.long p4), .second, .val (.int v6), .unset, .unset, .unset] [(.int ((4 : Int32) * v6)), (.long p4)])) _ _ _ _
    refine own_go (fun _ k => XS.lushr X.here hx rfl (hb hby d1_36) rfl k) ?_
    show own_G _ _ _ (T.setTop (mkF m 37 #[.val (.int p0), .val (.int p1), .val (.int p2), .val (.int p3), .val (.long p4), .second, .val (.int v6), .unset, .unset, .unset] [(.long ((p4.toUInt64 >>> (((4 : Int32) * v6) &&& 0x3f).toInt64.toUInt64).toInt64))])) _ _ _ _
    refine own_go (fun _ k => X.ldc2Long hx hown (mvT hZ (hw _ (List.mem_of_getElem? (i := 6) rfl))) (g := (mkF m 37 #[.val (.int p0), .val (.int p1), .val (.int p2), .val (.int p3), .val (.long p4), .second, .val (.int v6), .unset, .unset, .unset] [(.long ((p4.toUInt64 >>> (((4 : Int32) * v6) &&& 0x3f).toInt64.toUInt64).toInt64))])) rfl (hb hby d1_37) _ k) ?_
    show own_G _ _ _ (T.setTop (mkF m 40 #[.val (.int p0), .val (.int p1), .val (.int p2), .val (.int p3), .val (.long p4), .second, .val (.int v6), .unset, .unset, .unset] [(.long (15 : Int64)), (.long ((p4.toUInt64 >>> (((4 : Int32) * v6) &&& 0x3f).toInt64.toUInt64).toInt64))])) _ _ _ _
    refine own_go (fun _ k => XS.land X.here hx rfl (hb hby d1_40) rfl k) ?_
    show own_G _ _ _ (T.setTop (mkF m 41 #[.val (.int p0), .val (.int p1), .val (.int p2), .val (.int p3), .val (.long p4), .second, .val (.int v6), .unset, .unset, .unset] [(.long (((p4.toUInt64 >>> (((4 : Int32) * v6) &&& 0x3f).toInt64.toUInt64).toInt64) &&& (15 : Int64)))])) _ _ _ _
    refine own_go (fun _ k => XS.l2i X.here hx rfl (hb hby d1_41) rfl k) ?_
    show own_G _ _ _ (T.setTop (mkF m 42 #[.val (.int p0), .val (.int p1), .val (.int p2), .val (.int p3), .val (.long p4), .second, .val (.int v6), .unset, .unset, .unset] [(.int (((p4.toUInt64 >>> (((4 : Int32) * v6) &&& 0x3f).toInt64.toUInt64).toInt64) &&& (15 : Int64)).toInt32)])) _ _ _ _
    refine own_go (fun _ k => XS.istore X.here hx rfl (hb hby d1_42) rfl (l' := #[.val (.int p0), .val (.int p1), .val (.int p2), .val (.int p3), .val (.long p4), .second, .val (.int v6), .val (.int (((p4.toUInt64 >>> (((4 : Int32) * v6) &&& 0x3f).toInt64.toUInt64).toInt64) &&& (15 : Int64)).toInt32), .unset, .unset]) rfl k) ?_
    show own_G _ _ _ (T.setTop (mkF m 44 #[.val (.int p0), .val (.int p1), .val (.int p2), .val (.int p3), .val (.long p4), .second, .val (.int v6), .val (.int (((p4.toUInt64 >>> (((4 : Int32) * v6) &&& 0x3f).toInt64.toUInt64).toInt64) &&& (15 : Int64)).toInt32), .unset, .unset] [])) _ _ _ _
    refine own_go (fun _ k => XS.iload X.here hx rfl (hb hby d1_44) rfl k) ?_
    show own_G _ _ _ (T.setTop (mkF m 46 #[.val (.int p0), .val (.int p1), .val (.int p2), .val (.int p3), .val (.long p4), .second, .val (.int v6), .val (.int (((p4.toUInt64 >>> (((4 : Int32) * v6) &&& 0x3f).toInt64.toUInt64).toInt64) &&& (15 : Int64)).toInt32), .unset, .unset] [(.int v6)])) _ _ _ _
    by_cases hc4 : v6 = (0 : Int32)
    · refine own_itI hc4 ?_
      refine own_go (fun _ k => XS.ifNo X.here hx rfl (hb hby d1_46) rfl ((if0 _ _).trans (teq hc4).2) k) ?_
      show own_G _ _ _ (T.setTop (mkF m 49 #[.val (.int p0), .val (.int p1), .val (.int p2), .val (.int p3), .val (.long p4), .second, .val (.int v6), .val (.int (((p4.toUInt64 >>> (((4 : Int32) * v6) &&& 0x3f).toInt64.toUInt64).toInt64) &&& (15 : Int64)).toInt32), .unset, .unset] [])) _ _ _ _
      refine own_go (fun _ k => XS.iloadN X.here hx rfl (hb hby d1_49) rfl k) ?_
      show own_G _ _ _ (T.setTop (mkF m 50 #[.val (.int p0), .val (.int p1), .val (.int p2), .val (.int p3), .val (.long p4), .second, .val (.int v6), .val (.int (((p4.toUInt64 >>> (((4 : Int32) * v6) &&& 0x3f).toInt64.toUInt64).toInt64) &&& (15 : Int64)).toInt32), .unset, .unset] [(.int p2)])) _ _ _ _
      refine own_go (fun _ k => XS.iconst X.here hx rfl (hb hby d1_50) k) ?_
      show own_G _ _ _ (T.setTop (mkF m 51 #[.val (.int p0), .val (.int p1), .val (.int p2), .val (.int p3), .val (.long p4), .second, .val (.int v6), .val (.int (((p4.toUInt64 >>> (((4 : Int32) * v6) &&& 0x3f).toInt64.toUInt64).toInt64) &&& (15 : Int64)).toInt32), .unset, .unset] [(.int (1 : Int32)), (.int p2)])) _ _ _ _
      by_cases hc5 : p2 = (1 : Int32)
      · refine own_itI hc5 ?_
        refine own_go (fun _ k => XS.icmpNo X.here hx rfl (hb hby d1_51) rfl (teq hc5).2 k) ?_
        show own_G _ _ _ (T.setTop (mkF m 54 #[.val (.int p0), .val (.int p1), .val (.int p2), .val (.int p3), .val (.long p4), .second, .val (.int v6), .val (.int (((p4.toUInt64 >>> (((4 : Int32) * v6) &&& 0x3f).toInt64.toUInt64).toInt64) &&& (15 : Int64)).toInt32), .unset, .unset] [])) _ _ _ _
        exact J54 _ _ X eT N v6 (((p4.toUInt64 >>> (((4 : Int32) * v6) &&& 0x3f).toInt64.toUInt64).toInt64) &&& (15 : Int64)).toInt32 
      · refine own_ifI hc5 ?_
        refine own_go (fun _ k => XS.icmpYes X.here hx rfl (pc0 := 51) (pc' := 66) rfl (hb hby d1_51) rfl (feq hc5).2 (by decide) (by decide) k) ?_
        show own_G _ _ _ (T.setTop (mkF m 66 #[.val (.int p0), .val (.int p1), .val (.int p2), .val (.int p3), .val (.long p4), .second, .val (.int v6), .val (.int (((p4.toUInt64 >>> (((4 : Int32) * v6) &&& 0x3f).toInt64.toUInt64).toInt64) &&& (15 : Int64)).toInt32), .unset, .unset] [])) _ _ _ _
        exact J66 _ _ X eT N v6 (((p4.toUInt64 >>> (((4 : Int32) * v6) &&& 0x3f).toInt64.toUInt64).toInt64) &&& (15 : Int64)).toInt32 
    · refine own_ifI hc4 ?_
      refine own_go (fun _ k => XS.ifYes X.here hx rfl (pc0 := 46) (pc' := 54) rfl (hb hby d1_46) rfl ((if0 _ _).trans (feq hc4).2) (by decide) (by decide) k) ?_
      show own_G _ _ _ (T.setTop (mkF m 54 #[.val (.int p0), .val (.int p1), .val (.int p2), .val (.int p3), .val (.long p4), .second, .val (.int v6), .val (.int (((p4.toUInt64 >>> (((4 : Int32) * v6) &&& 0x3f).toInt64.toUInt64).toInt64) &&& (15 : Int64)).toInt32), .unset, .unset] [])) _ _ _ _
      exact J54 _ _ X eT N v6 (((p4.toUInt64 >>> (((4 : Int32) * v6) &&& 0x3f).toInt64.toUInt64).toInt64) &&& (15 : Int64)).toInt32 
  have J12 : ∀ (T : State) (Lc : List Loc) (X : Stand p l e ({ frames := 0, cells := 0, slots := 0, locals := 0 } : Room) s m #[(.int p0), (.int p1), (.int p2), (.int p3), (.long p4)] below meth c T Lc 0 0) (eT : T.heap = h0) (N : Fr n0 Lc)  , own_G p.tables e below (T.setTop (mkF m 12 #[.val (.int p0), .val (.int p1), .val (.int p2), .val (.int p3), .val (.long p4), .second, .unset, .unset, .unset, .unset] [])) s ({ frames := 0, cells := 0, slots := 0, locals := 0 } : Room).cells ({ frames := 0, cells := 0, slots := 0, locals := 0 } : Room).slots (own_P n0 h0 (some (.int (own_ch_12 p0 p1 p2 p3 p4 )))) := by
    intro T Lc X eT N  
    show own_G _ _ _ _ _ _ _ (own_P n0 h0 (some (.int ((if (0 : Int32) < p2 then (if (p0 - p1) = p2 then (nar .char (46 : Int32)) else (own_ch_30 p0 p1 p2 p3 p4 (p0 - p1))) else (own_ch_30 p0 p1 p2 p3 p4 (p0 - p1)))))))
    refine own_go (fun _ k => XS.iloadN X.here hx rfl (hb hby d1_12) rfl k) ?_
    show own_G _ _ _ (T.setTop (mkF m 13 #[.val (.int p0), .val (.int p1), .val (.int p2), .val (.int p3), .val (.long p4), .second, .unset, .unset, .unset, .unset] [(.int p0)])) _ _ _ _
    refine own_go (fun _ k => XS.iloadN X.here hx rfl (hb hby d1_13) rfl k) ?_
    show own_G _ _ _ (T.setTop (mkF m 14 #[.val (.int p0), .val (.int p1), .val (.int p2), .val (.int p3), .val (.long p4), .second, .unset, .unset, .unset, .unset] [(.int p1), (.int p0)])) _ _ _ _
    refine own_go (fun _ k => XS.isub X.here hx rfl (hb hby d1_14) rfl k) ?_
    show own_G _ _ _ (T.setTop (mkF m 15 #[.val (.int p0), .val (.int p1), .val (.int p2), .val (.int p3), .val (.long p4), .second, .unset, .unset, .unset, .unset] [(.int (p0 - p1))])) _ _ _ _
    refine own_go (fun _ k => XS.istore X.here hx rfl (hb hby d1_15) rfl (l' := #[.val (.int p0), .val (.int p1), .val (.int p2), .val (.int p3), .val (.long p4), .second, .val (.int (p0 - p1)), .unset, .unset, .unset]) rfl k) ?_
    show own_G _ _ _ (T.setTop (mkF m 17 #[.val (.int p0), .val (.int p1), .val (.int p2), .val (.int p3), .val (.long p4), .second, .val (.int (p0 - p1)), .unset, .unset, .unset] [])) _ _ _ _
    refine own_go (fun _ k => XS.iloadN X.here hx rfl (hb hby d1_17) rfl k) ?_
    show own_G _ _ _ (T.setTop (mkF m 18 #[.val (.int p0), .val (.int p1), .val (.int p2), .val (.int p3), .val (.long p4), .second, .val (.int (p0 - p1)), .unset, .unset, .unset] [(.int p2)])) _ _ _ _
    by_cases hc6 : (0 : Int32) < p2
    · refine own_itI hc6 ?_
      refine own_go (fun _ k => XS.ifNo X.here hx rfl (hb hby d1_18) rfl ((if0 _ _).trans (tlt hc6).2.2.2) k) ?_
      show own_G _ _ _ (T.setTop (mkF m 21 #[.val (.int p0), .val (.int p1), .val (.int p2), .val (.int p3), .val (.long p4), .second, .val (.int (p0 - p1)), .unset, .unset, .unset] [])) _ _ _ _
      refine own_go (fun _ k => XS.iload X.here hx rfl (hb hby d1_21) rfl k) ?_
      show own_G _ _ _ (T.setTop (mkF m 23 #[.val (.int p0), .val (.int p1), .val (.int p2), .val (.int p3), .val (.long p4), .second, .val (.int (p0 - p1)), .unset, .unset, .unset] [(.int (p0 - p1))])) _ _ _ _
      refine own_go (fun _ k => XS.iloadN X.here hx rfl (hb hby d1_23) rfl k) ?_
      show own_G _ _ _ (T.setTop (mkF m 24 #[.val (.int p0), .val (.int p1), .val (.int p2), .val (.int p3), .val (.long p4), .second, .val (.int (p0 - p1)), .unset, .unset, .unset] [(.int p2), (.int (p0 - p1))])) _ _ _ _
      by_cases hc7 : (p0 - p1) = p2
      · refine own_itI hc7 ?_
        refine own_go (fun _ k => XS.icmpNo X.here hx rfl (hb hby d1_24) rfl (teq hc7).2 k) ?_
        show own_G _ _ _ (T.setTop (mkF m 27 #[.val (.int p0), .val (.int p1), .val (.int p2), .val (.int p3), .val (.long p4), .second, .val (.int (p0 - p1)), .unset, .unset, .unset] [])) _ _ _ _
        refine own_go (fun _ k => XS.bipush X.here hx rfl (hb hby d1_27) k) ?_
        show own_G _ _ _ (T.setTop (mkF m 29 #[.val (.int p0), .val (.int p1), .val (.int p2), .val (.int p3), .val (.long p4), .second, .val (.int (p0 - p1)), .unset, .unset, .unset] [(.int (46 : Int32))])) _ _ _ _
        exact own_endN X hx hlk (t := .char) Bd.returns (by simp) (hb hby d1_29) (by decide) (by decide) ⟨rfl, N, eT⟩
      · refine own_ifI hc7 ?_
        refine own_go (fun _ k => XS.icmpYes X.here hx rfl (pc0 := 24) (pc' := 30) rfl (hb hby d1_24) rfl (feq hc7).2 (by decide) (by decide) k) ?_
        show own_G _ _ _ (T.setTop (mkF m 30 #[.val (.int p0), .val (.int p1), .val (.int p2), .val (.int p3), .val (.long p4), .second, .val (.int (p0 - p1)), .unset, .unset, .unset] [])) _ _ _ _
        exact J30 _ _ X eT N (p0 - p1) 
    · refine own_ifI hc6 ?_
      refine own_go (fun _ k => XS.ifYes X.here hx rfl (pc0 := 18) (pc' := 30) rfl (hb hby d1_18) rfl ((if0 _ _).trans (flt hc6).2.2.2) (by decide) (by decide) k) ?_
      show own_G _ _ _ (T.setTop (mkF m 30 #[.val (.int p0), .val (.int p1), .val (.int p2), .val (.int p3), .val (.long p4), .second, .val (.int (p0 - p1)), .unset, .unset, .unset] [])) _ _ _ _
      exact J30 _ _ X eT N (p0 - p1) 
  show own_G p.tables e below (s₁.setTop (entryFrame m #[(.int p0), (.int p1), (.int p2), (.int p3), (.long p4)] 10)) s ({ frames := 0, cells := 0, slots := 0, locals := 0 } : Room).cells ({ frames := 0, cells := 0, slots := 0, locals := 0 } : Room).slots (own_P n0 h0 (some (.int ((if p1 = (1 : Int32) then (if p0 = (0 : Int32) then (nar .char (45 : Int32)) else (own_ch_12 p0 p1 p2 p3 p4 )) else (own_ch_12 p0 p1 p2 p3 p4 ))))))
  refine own_go (fun _ k => castTop (ef_1 m p0 p1 p2 p3 p4) k) ?_
  refine own_go (fun _ k => XS.iloadN X0.here hx rfl (hb hby d1_0) rfl k) ?_
  show own_G _ _ _ (s₁.setTop (mkF m 1 #[.val (.int p0), .val (.int p1), .val (.int p2), .val (.int p3), .val (.long p4), .second, .unset, .unset, .unset, .unset] [(.int p1)])) _ _ _ _
  refine own_go (fun _ k => XS.iconst X0.here hx rfl (hb hby d1_1) k) ?_
  show own_G _ _ _ (s₁.setTop (mkF m 2 #[.val (.int p0), .val (.int p1), .val (.int p2), .val (.int p3), .val (.long p4), .second, .unset, .unset, .unset, .unset] [(.int (1 : Int32)), (.int p1)])) _ _ _ _
  by_cases hc8 : p1 = (1 : Int32)
  · refine own_itI hc8 ?_
    refine own_go (fun _ k => XS.icmpNo X0.here hx rfl (hb hby d1_2) rfl (teq hc8).2 k) ?_
    show own_G _ _ _ (s₁.setTop (mkF m 5 #[.val (.int p0), .val (.int p1), .val (.int p2), .val (.int p3), .val (.long p4), .second, .unset, .unset, .unset, .unset] [])) _ _ _ _
    refine own_go (fun _ k => XS.iloadN X0.here hx rfl (hb hby d1_5) rfl k) ?_
    show own_G _ _ _ (s₁.setTop (mkF m 6 #[.val (.int p0), .val (.int p1), .val (.int p2), .val (.int p3), .val (.long p4), .second, .unset, .unset, .unset, .unset] [(.int p0)])) _ _ _ _
    by_cases hc9 : p0 = (0 : Int32)
    · refine own_itI hc9 ?_
      refine own_go (fun _ k => XS.ifNo X0.here hx rfl (hb hby d1_6) rfl ((if0 _ _).trans (teq hc9).2) k) ?_
      show own_G _ _ _ (s₁.setTop (mkF m 9 #[.val (.int p0), .val (.int p1), .val (.int p2), .val (.int p3), .val (.long p4), .second, .unset, .unset, .unset, .unset] [])) _ _ _ _
      refine own_go (fun _ k => XS.bipush X0.here hx rfl (hb hby d1_9) k) ?_
      show own_G _ _ _ (s₁.setTop (mkF m 11 #[.val (.int p0), .val (.int p1), .val (.int p2), .val (.int p3), .val (.long p4), .second, .unset, .unset, .unset, .unset] [(.int (45 : Int32))])) _ _ _ _
      exact own_endN X0 hx hlk (t := .char) Bd.returns (by simp) (hb hby d1_11) (by decide) (by decide) ⟨rfl, N0, e0⟩
    · refine own_ifI hc9 ?_
      refine own_go (fun _ k => XS.ifYes X0.here hx rfl (pc0 := 6) (pc' := 12) rfl (hb hby d1_6) rfl ((if0 _ _).trans (feq hc9).2) (by decide) (by decide) k) ?_
      show own_G _ _ _ (s₁.setTop (mkF m 12 #[.val (.int p0), .val (.int p1), .val (.int p2), .val (.int p3), .val (.long p4), .second, .unset, .unset, .unset, .unset] [])) _ _ _ _
      exact J12 _ _ X0 e0 N0  
  · refine own_ifI hc8 ?_
    refine own_go (fun _ k => XS.icmpYes X0.here hx rfl (pc0 := 2) (pc' := 12) rfl (hb hby d1_2) rfl (feq hc8).2 (by decide) (by decide) k) ?_
    show own_G _ _ _ (s₁.setTop (mkF m 12 #[.val (.int p0), .val (.int p1), .val (.int p2), .val (.int p3), .val (.long p4), .second, .unset, .unset, .unset, .unset] [])) _ _ _ _
    exact J12 _ _ X0 e0 N0  
theorem own_fin (v : Int32) (n : Nat) (h0 : 0 ≤ v.toInt) (h1 : v.toInt < n) : ∃ k : Fin n, v = Int32.ofInt (k.val : Int) :=
  ⟨⟨v.toInt.toNat, by omega⟩, by show v = Int32.ofInt ((v.toInt.toNat : Nat) : Int); rw [Int.toNat_of_nonneg h0, Int32.ofInt_toInt]⟩
theorem own_digs : ∀ k : Fin 16, (48 ≤ (nar .char ((48 : Int32) + (Int32.ofInt (k.val : Int) % (10 : Int32))).toUInt32.toUInt16.toUInt32.toInt32).toInt ∧ (nar .char ((48 : Int32) + (Int32.ofInt (k.val : Int) % (10 : Int32))).toUInt32.toUInt16.toUInt32.toInt32).toInt ≤ 57) ∧
    (48 ≤ (nar .char ((48 : Int32) + ((1 : Int32) + (Int32.ofInt (k.val : Int) % (9 : Int32)))).toUInt32.toUInt16.toUInt32.toInt32).toInt ∧ (nar .char ((48 : Int32) + ((1 : Int32) + (Int32.ofInt (k.val : Int) % (9 : Int32)))).toUInt32.toUInt16.toUInt32.toInt32).toInt ≤ 57) := by decide +kernel
theorem own_71 (p0 p1 p2 p3 : Int32) (p4 : Int64) (v6 v7 w : Int32) (h0 : 0 ≤ v7.toInt) (h1 : v7.toInt < 16) : 48 ≤ (own_ch_71 p0 p1 p2 p3 p4 v6 v7 w).toInt ∧ (own_ch_71 p0 p1 p2 p3 p4 v6 v7 w).toInt ≤ 57 := by
  obtain ⟨k, rfl⟩ := own_fin v7 16 h0 h1
  simp only [own_ch_71, own_ch_93]
  split
  · exact (own_digs k).1
  · exact (own_digs k).2
theorem own_raw (x : Int64) : 0 ≤ ((x &&& (15 : Int64)).toInt32).toInt ∧ ((x &&& (15 : Int64)).toInt32).toInt < 16 := by
  have e := Jvm.Kit.i64_mask x 15 (k := 4) (by decide) (by decide)
  have e2 := Jvm.Kit.i32_of_i64 (x := x &&& 15) (by omega) (by omega)
  rw [e2, e]
  omega
theorem own_30 (p0 p1 p2 p3 : Int32) (p4 : Int64) (v6 : Int32) : 48 ≤ (own_ch_30 p0 p1 p2 p3 p4 v6).toInt ∧ (own_ch_30 p0 p1 p2 p3 p4 v6).toInt ≤ 57 := by
  have r := own_raw ((p4.toUInt64 >>> (((4 : Int32) * v6) &&& 0x3f).toInt64.toUInt64).toInt64)
  have h := fun w => own_71 p0 p1 p2 p3 p4 v6 ((((p4.toUInt64 >>> (((4 : Int32) * v6) &&& 0x3f).toInt64.toUInt64).toInt64) &&& (15 : Int64)).toInt32) w r.1 r.2
  simp only [own_ch_30, own_ch_54, own_ch_66, own_ch_70]
  repeat' split
  all_goals exact h _
/-- the signs that are drawn -/
theorem own_range (i s m l : Int32) (d : Int64) : 45 ≤ (own_ch i s m l d).toInt ∧ (own_ch i s m l d).toInt ≤ 57 := by
  have h := own_30 i s m l d (i - s)
  have e1 : (nar .char (45 : Int32)).toInt = 45 := by decide
  have e2 : (nar .char (46 : Int32)).toInt = 46 := by decide
  simp only [own_ch, own_ch_12]
  repeat' split
  all_goals omega
theorem own_dot (i s m l : Int32) (d : Int64) : own_ch i s m l d = 46 ↔ ¬ (s = 1 ∧ i = 0) ∧ 0 < m ∧ i - s = m := by
  have h := own_30 i s m l d (i - s)
  have e1 : ¬ nar .char (45 : Int32) = 46 := by decide
  have e2 : nar .char (46 : Int32) = 46 := by decide
  have e3 : ¬ own_ch_30 i s m l d (i - s) = 46 := fun q => by
    rw [q] at h
    have : (46 : Int32).toInt = 46 := by decide
    omega
  simp only [own_ch, own_ch_12]
  repeat' split
  all_goals first | (simp_all; done) | (simp_all; intro q; exact absurd q (Int32.not_lt.mpr (by assumption)))
theorem own_tab : ∀ k : Fin 13, (nar .char (Int32.ofInt ((k.val : Int) + 45))).toInt8.toInt32 = Int32.ofInt ((k.val : Int) + 45) ∧ ¬ nar .char (Int32.ofInt ((k.val : Int) + 45)) < 0 ∧ ¬ (255 : Int32) < nar .char (Int32.ofInt ((k.val : Int) + 45)) := by decide +kernel
theorem own_byte (c : Int32) (h0 : 45 ≤ c.toInt) (h1 : c.toInt ≤ 57) : (nar .char c).toInt8.toInt32 = c ∧ ¬ nar .char c < 0 ∧ ¬ (255 : Int32) < nar .char c := by
  have e : c = Int32.ofInt (((c.toInt - 45).toNat : Int) + 45) := by rw [Int.toNat_of_nonneg (by omega), Int.sub_add_cancel, Int32.ofInt_toInt]
  have := own_tab ⟨(c.toInt - 45).toNat, by omega⟩
  rw [e]
  exact this
/-- the byte of a drawn sign -/
def own_b (i s m l : Int32) (d : Int64) : Int32 := (nar .char (own_ch i s m l d)).toInt8.toInt32
theorem own_b_dot (i s m l : Int32) (d : Int64) : own_b i s m l d = 46 ↔ ¬ (s = 1 ∧ i = 0) ∧ 0 < m ∧ i - s = m := by
  unfold own_b
  rw [(own_byte _ (own_range i s m l d).1 (own_range i s m l d).2).1]
  exact own_dot i s m l d
def own_f6 (b0 b1 b2 b3 b4 b5 : Int32) : Int32 := if b0 = 46 then 0 else if b1 = 46 then 1 else if b2 = 46 then 2 else if b3 = 46 then 3 else if b4 = 46 then 4 else if b5 = 46 then 5 else -1
def own_f3 (b0 b1 b2 : Int32) : Int32 := if b0 = 46 then 0 else if b1 = 46 then 1 else if b2 = 46 then 2 else -1
theorem own_s01 (x : Int32) : (x &&& 1) = 0 ∨ (x &&& 1) = 1 := by
  have e := Jvm.Kit.i32_mask x 1 (k := 1) (by decide) (by decide)
  have h : ∀ k : Int, (x &&& 1).toInt = k → (x &&& 1) = Int32.ofInt k := fun k q => by rw [← q, Int32.ofInt_toInt]
  have : x.toInt % 2 ^ 1 = 0 ∨ x.toInt % 2 ^ 1 = 1 := by omega
  rcases this with q | q
  · exact Or.inl (h 0 (by rw [e, q]))
  · exact Or.inr (h 1 (by rw [e, q]))
theorem own_rem (x y : Int32) (n : Nat) (h0 : 0 ≤ x.toInt) (hy : y.toInt = n) (hn : 0 < n) : ∃ k : Fin n, x % y = Int32.ofInt (k.val : Int) := by
  have e := Jvm.Kit.i32_rem_nonneg (x := x) (y := y) h0
  exact own_fin (x % y) n (by rw [e, hy]; exact Int.emod_nonneg _ (by omega)) (by rw [e, hy]; exact Int.emod_lt_of_pos _ (by omega))
/-- six signs: a point is among them just where m isn't 0 -/
theorem own_six (s l : Int32) (m : Int32) (d : Int64) (hs : (s = 0 ∧ ∃ k : Fin 5, m = Int32.ofInt (k.val : Int)) ∨ (s = 1 ∧ ∃ k : Fin 4, m = Int32.ofInt (k.val : Int))) :
    own_f6 (own_b 0 s m l d) (own_b 1 s m l d) (own_b 2 s m l d) (own_b 3 s m l d) (own_b 4 s m l d) (own_b 5 s m l d) < 0 ↔ m = 0 := by
  simp only [own_f6, own_b_dot]
  rcases hs with ⟨rfl, k, rfl⟩ | ⟨rfl, k, rfl⟩
  · revert k; decide +kernel
  · revert k; decide +kernel
theorem own_three (s l : Int32) (m : Int32) (d : Int64) (hs : (s = 0 ∧ ∃ k : Fin 2, m = Int32.ofInt (k.val : Int)) ∨ (s = 1 ∧ ∃ k : Fin 1, m = Int32.ofInt (k.val : Int))) :
    own_f3 (own_b 0 s m l d) (own_b 1 s m l d) (own_b 2 s m l d) < 0 ↔ m = 0 := by
  simp only [own_f3, own_b_dot]
  rcases hs with ⟨rfl, k, rfl⟩ | ⟨rfl, k, rfl⟩
  · revert k; decide +kernel
  · revert k; decide +kernel

theorem d9_0 : decode jdk_30_method_1_code 0 = .ok (.aload_n 0, 1) := by decide +kernel
theorem d9_1 : decode jdk_30_method_1_code 1 = .ok (.invokespecial 1, 3) := by decide +kernel
theorem d9_4 : decode jdk_30_method_1_code 4 = .ok (.return_, 1) := by decide +kernel
theorem pn_1 : plainName "java/lang/Record" = true := by first | (simp [plainName, overriddenIn]; done) | decide +kernel
theorem ef_9 (m : MethodId) (p0 : Addr) : entryFrame m #[(.ref p0)] 1 = mkF m 0 #[.val (.ref p0)] [] := by first | (simp [entryFrame, mkF, argsToLocals, Value.category]; done) | rfl
def Q9 (Z : State) (p0 : Addr) (h0 : Heap) (n0 : Nat) (v : Option Value) (h : Heap) (L : List Loc) : Prop := v = none ∧ Fr n0 L ∧ h = h0
set_option maxRecDepth 65536 in
set_option maxHeartbeats 40000000 in
theorem rm9 (l : Launch) (Z : State) (a0 : Array Value) (hw : ∀ d ∈ tables_1, d.before a0 Z = true) (ws : List Jvm.Cond) (p0 : Addr) (h0 : Heap) (n0 : Nat) :
    MetFree l (⟨"java/lang/Record", "<init>", "()V"⟩ : MethodName) (head1 (Jvm.Cond.code (⟨"java/lang/Record", "<init>", "()V"⟩ : MethodName) jdk_30_method_1_code 1 none :: ws) ({ frames := 1, cells := 0, slots := 0, locals := 12 } : Room)) (fun a U => a = #[(.ref p0)] ∧ Z.Warmed39 U.vm ∧ U.heap = h0) (fun _ _ _ _ _ => True) (fun _ U o U' => ∃ v L, o = .returned v ∧ (Q9 Z p0 h0 n0) v U'.heap L ∧ FrameEnd U o U' L ({ frames := 1, cells := 0, slots := 0, locals := 12 } : Room).cells ({ frames := 1, cells := 0, slots := 0, locals := 12 } : Room).slots) := by
  refine MetFree.of_bodySF (plainFor_of_name pn_1) hisR ?_
  intro p e s m args below meth c s₁ Bd hml0 hP hK
  obtain ⟨rfl, hZ, hh⟩ := hP
  have hx := Bd.exec
  have hby := Bd.bytes
  have hml : c.maxLocals = 1 := hml0
  have hown : s.vm.findClass "java/lang/Record" = some m.cls := findClass_of_methodNamed Bd.named
  have hnm := (name_of_methodNamed Bd.named Bd.method).1
  have hlk : meth.locks = false := BodyLoose.notSynchronized Bd
  have X0 : Stand p l e ({ frames := 1, cells := 0, slots := 0, locals := 12 } : Room) s m #[(.ref p0)] below meth c s₁ [] 0 0 := Stand.of_body Bd
  have e0 : s₁.heap = h0 := by rw [← hh, Bd.state]; rfl
  have N0 := Fr.nil n0
  show own_G p.tables e below (s₁.setTop (entryFrame m #[(.ref p0)] 1)) s ({ frames := 1, cells := 0, slots := 0, locals := 12 } : Room).cells ({ frames := 1, cells := 0, slots := 0, locals := 12 } : Room).slots (Q9 Z p0 h0 n0)
  refine own_go (fun _ k => castTop (ef_9 m p0) k) ?_
  show own_G _ _ _ (s₁.setTop (mkF m 0 #[.val (.ref p0)] [])) _ _ _ _
  refine own_go (fun _ k => XS.aloadN X0.here hx rfl (hb hby d9_0) rfl rfl k) ?_
  show own_G _ _ _ (s₁.setTop (mkF m 1 #[.val (.ref p0)] [(.ref p0)])) _ _ _ _
  obtain ⟨T1, X1, e1, st1⟩ := initO X0 hx hZ hown (hw _ (List.mem_of_getElem? (i := 48) rfl)) (hw _ (List.mem_of_getElem? (i := 22) rfl)) (hw _ (List.mem_of_getElem? (i := 23) rfl)) e0 (g := (mkF m 1 #[.val (.ref p0)] [(.ref p0)])) rfl (by rw [hml]; rfl) rfl (hb hby d9_1) (by decide) (W := 0) (by show 2 * 0 + _ ≤ _; exact Nat.le_of_eq rfl) (by decide)
  refine own_go (fun _ k => st1 _ k) ?_
  show own_G _ _ _ (T1.setTop (mkF m 4 #[.val (.ref p0)] [])) _ _ _ _
  exact own_endV X1 hx hlk Bd.returns (hb hby d9_4) (by decide) (by decide) (Q := (Q9 Z p0 h0 n0)) (by rw [e1]; exact ⟨rfl, N0, rfl⟩)
theorem d8_0 : decode prog_26_method_1_code 0 = .ok (.aload_n 0, 1) := by decide +kernel
theorem d8_1 : decode prog_26_method_1_code 1 = .ok (.invokespecial 1, 3) := by decide +kernel
theorem d8_4 : decode prog_26_method_1_code 4 = .ok (.aload_n 0, 1) := by decide +kernel
theorem d8_5 : decode prog_26_method_1_code 5 = .ok (.aload_n 1, 1) := by decide +kernel
theorem d8_6 : decode prog_26_method_1_code 6 = .ok (.putfield 7, 3) := by decide +kernel
theorem d8_9 : decode prog_26_method_1_code 9 = .ok (.return_, 1) := by decide +kernel
theorem pd_0 : parseMethodDescriptor "()V" = some ⟨[], none⟩ := by decide +kernel
theorem pn_2 : plainName "com/example/hence/hence/reasoning/Decimal" = true := by first | (simp [plainName, overriddenIn]; done) | decide +kernel
theorem ef_8 (m : MethodId) (p0 : Addr) (p1 : Addr) : entryFrame m #[(.ref p0), (.ref p1)] 2 = mkF m 0 #[.val (.ref p0), .val (.ref p1)] [] := by first | (simp [entryFrame, mkF, argsToLocals, Value.category]; done) | rfl
def Q8 (Z : State) (p0 : Addr) (p1 : Addr) (h0 : Heap) (n0 : Nat) (v : Option Value) (h : Heap) (L : List Loc) : Prop := v = none ∧ Fr n0 L ∧ Keep h0 h [p0] ∧ Exa Z h p0 "com/example/hence/hence/reasoning/Decimal" ∧ Fld Z h p0 "com/example/hence/hence/reasoning/Decimal" "canonical" "Ljava/lang/String;" (.ref p1)
set_option maxRecDepth 65536 in
set_option maxHeartbeats 40000000 in
theorem rm8 (l : Launch) (Z : State) (a0 : Array Value) (hw : ∀ d ∈ tables_1, d.before a0 Z = true) (ws : List Jvm.Cond) (p0 : Addr) (p1 : Addr) (h0 : Heap) (n0 : Nat) (Z0 : n0 ≤ h0.size) (P_E_p0 : Exa Z h0 p0 "com/example/hence/hence/reasoning/Decimal") (P_F_p0_canonical : Fld Z h0 p0 "com/example/hence/hence/reasoning/Decimal" "canonical" "Ljava/lang/String;" .null) (g_p0 : n0 ≤ p0) :
    MetFree l (⟨"com/example/hence/hence/reasoning/Decimal", "<init>", "(Ljava/lang/String;)V"⟩ : MethodName) (head1 (Jvm.Cond.code (⟨"com/example/hence/hence/reasoning/Decimal", "<init>", "(Ljava/lang/String;)V"⟩ : MethodName) prog_26_method_1_code 2 none :: ws) ({ frames := 2, cells := 0, slots := 0, locals := 24 } : Room)) (fun a U => a = #[(.ref p0), (.ref p1)] ∧ Z.Warmed39 U.vm ∧ U.heap = h0) (fun _ _ _ _ _ => True) (fun _ U o U' => ∃ v L, o = .returned v ∧ (Q8 Z p0 p1 h0 n0) v U'.heap L ∧ FrameEnd U o U' L ({ frames := 2, cells := 0, slots := 0, locals := 24 } : Room).cells ({ frames := 2, cells := 0, slots := 0, locals := 24 } : Room).slots) := by
  refine MetFree.of_bodySF (plainFor_of_name pn_2) hisR ?_
  intro p e s m args below meth c s₁ Bd hml0 hP hK
  obtain ⟨rfl, hZ, hh⟩ := hP
  have hx := Bd.exec
  have hby := Bd.bytes
  have hml : c.maxLocals = 2 := hml0
  have hown : s.vm.findClass "com/example/hence/hence/reasoning/Decimal" = some m.cls := findClass_of_methodNamed Bd.named
  have hnm := (name_of_methodNamed Bd.named Bd.method).1
  have hlk : meth.locks = false := BodyLoose.notSynchronized Bd
  have X0 : Stand p l e ({ frames := 2, cells := 0, slots := 0, locals := 24 } : Room) s m #[(.ref p0), (.ref p1)] below meth c s₁ [] 0 0 := Stand.of_body Bd
  have e0 : s₁.heap = h0 := by rw [← hh, Bd.state]; rfl
  have N0 := Fr.nil n0
  have K0 : Keep h0 h0 [p0] := Keep.refl h0 [p0]
  show own_G p.tables e below (s₁.setTop (entryFrame m #[(.ref p0), (.ref p1)] 2)) s ({ frames := 2, cells := 0, slots := 0, locals := 24 } : Room).cells ({ frames := 2, cells := 0, slots := 0, locals := 24 } : Room).slots (Q8 Z p0 p1 h0 n0)
  refine own_go (fun _ k => castTop (ef_8 m p0 p1) k) ?_
  show own_G _ _ _ (s₁.setTop (mkF m 0 #[.val (.ref p0), .val (.ref p1)] [])) _ _ _ _
  refine own_go (fun _ k => XS.aloadN X0.here hx rfl (hb hby d8_0) rfl rfl k) ?_
  show own_G _ _ _ (s₁.setTop (mkF m 1 #[.val (.ref p0), .val (.ref p1)] [(.ref p0)])) _ _ _ _
  obtain ⟨_, _, ⟨T1, L1, k1, n1⟩, -, X1, ⟨Lc1, hQ1, l1, y1, z1⟩, st1⟩ := X0.specialBack hx (y := (⟨"java/lang/Record", "<init>", "()V"⟩ : MethodName)) rfl hown (mvT hZ (hw _ (List.mem_of_getElem? (i := 43) rfl))) (mvT hZ (hw _ (List.mem_of_getElem? (i := 44) rfl))) (mvT hZ (hw _ (List.mem_of_getElem? (i := 47) rfl))) (by decide) (backOf (W := 0) (rm9 l Z a0 hw [] p0 h0 n0) hZ (hw _ (List.mem_of_getElem? (i := 47) rfl)) (hw _ (List.mem_of_getElem? (i := 46) rfl)) (by decide) (by decide)) (g := (mkF m 1 #[.val (.ref p0), .val (.ref p1)] [(.ref p0)])) rfl (by rw [hml]; rfl) (Steps.refl _) (a := p0) (argsL := []) (rest := []) (lenOf pd_0 rfl) rfl (by show 2 * 0 + _ ≤ _; exact Nat.le_of_eq rfl) (hb hby d8_1) (fun _ _ => ⟨rfl, e0, (by decide : 0 + 0 ≤ _), (by decide : 0 + 0 ≤ _)⟩)
  dsimp only [Pt.U, Pt.locs, Pt.cells, Pt.slots] at X1 l1 y1 z1 st1 hQ1
  rw [l1] at X1
  subst y1 z1
  obtain ⟨rfl, Nq1, eh1⟩ := hQ1
  have N1 := Fr.app N0 Nq1
  refine own_tr st1 ?_
  show own_G _ _ _ (T1.setTop (mkF m 4 #[.val (.ref p0), .val (.ref p1)] [])) _ _ _ _
  refine own_go (fun _ k => XS.aloadN X1.here hx rfl (hb hby d8_4) rfl rfl k) ?_
  show own_G _ _ _ (T1.setTop (mkF m 5 #[.val (.ref p0), .val (.ref p1)] [(.ref p0)])) _ _ _ _
  refine own_go (fun _ k => XS.aloadN X1.here hx rfl (hb hby d8_5) rfl rfl k) ?_
  show own_G _ _ _ (T1.setTop (mkF m 6 #[.val (.ref p0), .val (.ref p1)] [(.ref p1), (.ref p0)])) _ _ _ _
  obtain ⟨T2, h2, X2, e2, W2, st2⟩ := putF X1 hx hZ hown (host := "") (Or.inl (hw _ (List.mem_of_getElem? (i := 49) rfl))) Via.refl eh1 P_F_p0_canonical P_E_p0 (Or.inr ⟨(hw _ (List.mem_of_getElem? (i := 50) rfl)), rfl, hnm⟩) (hw _ (List.mem_of_getElem? (i := 9) rfl)) (ty := (.object "java/lang/String")) (by decide) rfl rfl (g := (mkF m 6 #[.val (.ref p0), .val (.ref p1)] [(.ref p1), (.ref p0)])) rfl rfl (hb hby d8_6)
  have N2 := Fr.snoc X2 N1 g_p0
  have Zs2 : n0 ≤ h2.size := Nat.le_trans Z0 (Keep.of_wr W2).1
  have K2_0 : Keep h0 h2 [p0] := K0.wr W2 (Or.inl (List.mem_of_getElem? (i := 0) rfl))
  have f3 : Exa Z h2 p0 "com/example/hence/hence/reasoning/Decimal" := P_E_p0.wr W2
  have f4 : Fld Z h2 p0 "com/example/hence/hence/reasoning/Decimal" "canonical" "Ljava/lang/String;" (.ref p1) := P_F_p0_canonical.same W2
  refine own_go (fun _ k => st2 _ k) ?_
  show own_G _ _ _ (T2.setTop (mkF m 9 #[.val (.ref p0), .val (.ref p1)] [])) _ _ _ _
  exact own_endV X2 hx hlk Bd.returns (hb hby d8_9) (by decide) (by decide) (Q := (Q8 Z p0 p1 h0 n0)) (by rw [e2]; exact ⟨rfl, N2, K2_0, f3, f4⟩)
theorem d13_0 : decode jdk_42_method_154_code 0 = .ok (.getstatic 38, 3) := by decide +kernel
theorem d13_3 : decode jdk_42_method_154_code 3 = .ok (.ifCond .eq 14, 3) := by decide +kernel
theorem d13_6 : decode jdk_42_method_154_code 6 = .ok (.aload_n 0, 1) := by decide +kernel
theorem d13_7 : decode jdk_42_method_154_code 7 = .ok (.getfield 15, 3) := by decide +kernel
theorem d13_10 : decode jdk_42_method_154_code 10 = .ok (.ifCond .ne 7, 3) := by decide +kernel
theorem d13_13 : decode jdk_42_method_154_code 13 = .ok (.iconst 1, 1) := by decide +kernel
theorem d13_14 : decode jdk_42_method_154_code 14 = .ok (.goto 4, 3) := by decide +kernel
theorem d13_17 : decode jdk_42_method_154_code 17 = .ok (.iconst 0, 1) := by decide +kernel
theorem d13_18 : decode jdk_42_method_154_code 18 = .ok (.ireturn, 1) := by decide +kernel
theorem pn_3 : plainName "java/lang/String" = true := by first | (simp [plainName, overriddenIn]; done) | decide +kernel
theorem ef_13 (m : MethodId) (p0 : Addr) : entryFrame m #[(.ref p0)] 1 = mkF m 0 #[.val (.ref p0)] [] := by first | (simp [entryFrame, mkF, argsToLocals, Value.category]; done) | rfl
def Q13 (Z : State) (p0 : Addr) (zc : Int32) (h0 : Heap) (n0 : Nat) (v : Option Value) (h : Heap) (L : List Loc) : Prop := v = some (.int (1 : Int32)) ∧ Fr n0 L ∧ h = h0
set_option maxRecDepth 65536 in
set_option maxHeartbeats 40000000 in
theorem rm13 (l : Launch) (Z : State) (a0 : Array Value) (hw : ∀ d ∈ tables_1, d.before a0 Z = true) (ws : List Jvm.Cond) (p0 : Addr) (zc : Int32) (h0 : Heap) (n0 : Nat) (Z0 : n0 ≤ h0.size) (P_Old : Old Z n0 h0) (P_ZS_java_lang_String_COMPACT_STRINGS : Sta Z Z.heap "java/lang/String" "COMPACT_STRINGS" "Z" (.int zc)) (hcs : ¬ zc = 0) (P_F_p0_coder : Fld Z h0 p0 "java/lang/String" "coder" "B" (.int 0)) :
    MetFree l (⟨"java/lang/String", "isLatin1", "()Z"⟩ : MethodName) (head1 (Jvm.Cond.code (⟨"java/lang/String", "isLatin1", "()Z"⟩ : MethodName) jdk_42_method_154_code 1 (some .boolean) :: ws) ({ frames := 0, cells := 0, slots := 0, locals := 0 } : Room)) (fun a U => a = #[(.ref p0)] ∧ Z.Warmed39 U.vm ∧ U.heap = h0) (fun _ _ _ _ _ => True) (fun _ U o U' => ∃ v L, o = .returned v ∧ (Q13 Z p0 zc h0 n0) v U'.heap L ∧ FrameEnd U o U' L ({ frames := 0, cells := 0, slots := 0, locals := 0 } : Room).cells ({ frames := 0, cells := 0, slots := 0, locals := 0 } : Room).slots) := by
  refine MetFree.of_bodySF (plainFor_of_name pn_3) hisR ?_
  intro p e s m args below meth c s₁ Bd hml0 hP hK
  obtain ⟨rfl, hZ, hh⟩ := hP
  have hx := Bd.exec
  have hby := Bd.bytes
  have hml : c.maxLocals = 1 := hml0
  have hown : s.vm.findClass "java/lang/String" = some m.cls := findClass_of_methodNamed Bd.named
  have hnm := (name_of_methodNamed Bd.named Bd.method).1
  have hlk : meth.locks = false := BodyLoose.notSynchronized Bd
  have X0 : Stand p l e ({ frames := 0, cells := 0, slots := 0, locals := 0 } : Room) s m #[(.ref p0)] below meth c s₁ [] 0 0 := Stand.of_body Bd
  have e0 : s₁.heap = h0 := by rw [← hh, Bd.state]; rfl
  have N0 := Fr.nil n0
  show own_G p.tables e below (s₁.setTop (entryFrame m #[(.ref p0)] 1)) s ({ frames := 0, cells := 0, slots := 0, locals := 0 } : Room).cells ({ frames := 0, cells := 0, slots := 0, locals := 0 } : Room).slots (Q13 Z p0 zc h0 n0)
  refine own_go (fun _ k => castTop (ef_13 m p0) k) ?_
  show own_G _ _ _ (s₁.setTop (mkF m 0 #[.val (.ref p0)] [])) _ _ _ _
  obtain ⟨T1, X1, e1, st1⟩ := getS2 X0 hx hZ hown (host := "") (Or.inl (hw _ (List.mem_of_getElem? (i := 24) rfl))) Via.refl e0 (P_ZS_java_lang_String_COMPACT_STRINGS.ext P_Old.2) (g := (mkF m 0 #[.val (.ref p0)] [])) rfl (hb hby d13_0)
  refine own_go (fun _ k => st1 _ k) ?_
  show own_G _ _ _ (T1.setTop (mkF m 3 #[.val (.ref p0)] [(.int zc)])) _ _ _ _
  have hc2 : ¬ (zc = (0 : Int32)) := hcs
  refine own_go (fun _ k => XS.ifNo X1.here hx rfl (hb hby d13_3) rfl ((if0 _ _).trans (feq hc2).1) k) ?_
  show own_G _ _ _ (T1.setTop (mkF m 6 #[.val (.ref p0)] [])) _ _ _ _
  refine own_go (fun _ k => XS.aloadN X1.here hx rfl (hb hby d13_6) rfl rfl k) ?_
  show own_G _ _ _ (T1.setTop (mkF m 7 #[.val (.ref p0)] [(.ref p0)])) _ _ _ _
  obtain ⟨T3, X3, e3, st3⟩ := getF X1 hx hZ hown (host := "") (Or.inl (hw _ (List.mem_of_getElem? (i := 36) rfl))) Via.refl e1 P_F_p0_coder (g := (mkF m 7 #[.val (.ref p0)] [(.ref p0)])) rfl rfl (hb hby d13_7)
  refine own_go (fun _ k => st3 _ k) ?_
  show own_G _ _ _ (T3.setTop (mkF m 10 #[.val (.ref p0)] [(.int 0)])) _ _ _ _
  have hc4 : 0 = (0 : Int32) := rfl
  refine own_go (fun _ k => XS.ifNo X3.here hx rfl (hb hby d13_10) rfl ((if0 _ _).trans (teq hc4).2) k) ?_
  show own_G _ _ _ (T3.setTop (mkF m 13 #[.val (.ref p0)] [])) _ _ _ _
  refine own_go (fun _ k => XS.iconst X3.here hx rfl (hb hby d13_13) k) ?_
  show own_G _ _ _ (T3.setTop (mkF m 14 #[.val (.ref p0)] [(.int (1 : Int32))])) _ _ _ _
  refine own_go (fun _ k => XS.goto X3.here hx rfl (pc0 := 14) (pc' := 18) rfl (hb hby d13_14) (by decide) (by decide) k) ?_
  show own_G _ _ _ (T3.setTop (mkF m 18 #[.val (.ref p0)] [(.int (1 : Int32))])) _ _ _ _
  exact own_endN X3 hx hlk (t := .boolean) Bd.returns (by simp) (hb hby d13_18) (by decide) (by decide) (Q := (Q13 Z p0 zc h0 n0)) (by rw [e3]; exact ⟨rfl, N0, rfl⟩)
theorem d15_0 : decode jdk_42_method_152_code 0 = .ok (.getstatic 38, 3) := by decide +kernel
theorem d15_3 : decode jdk_42_method_152_code 3 = .ok (.ifCond .eq 10, 3) := by decide +kernel
theorem d15_6 : decode jdk_42_method_152_code 6 = .ok (.aload_n 0, 1) := by decide +kernel
theorem d15_7 : decode jdk_42_method_152_code 7 = .ok (.getfield 15, 3) := by decide +kernel
theorem d15_10 : decode jdk_42_method_152_code 10 = .ok (.goto 4, 3) := by decide +kernel
theorem d15_13 : decode jdk_42_method_152_code 13 = .ok (.iconst 1, 1) := by decide +kernel
theorem d15_14 : decode jdk_42_method_152_code 14 = .ok (.ireturn, 1) := by decide +kernel
theorem ef_15 (m : MethodId) (p0 : Addr) : entryFrame m #[(.ref p0)] 1 = mkF m 0 #[.val (.ref p0)] [] := by first | (simp [entryFrame, mkF, argsToLocals, Value.category]; done) | rfl
def Q15 (Z : State) (p0 : Addr) (zc : Int32) (h0 : Heap) (n0 : Nat) (v : Option Value) (h : Heap) (L : List Loc) : Prop := v = some (.int (0 : Int32)) ∧ Fr n0 L ∧ h = h0
set_option maxRecDepth 65536 in
set_option maxHeartbeats 40000000 in
theorem rm15 (l : Launch) (Z : State) (a0 : Array Value) (hw : ∀ d ∈ tables_1, d.before a0 Z = true) (ws : List Jvm.Cond) (p0 : Addr) (zc : Int32) (h0 : Heap) (n0 : Nat) (Z0 : n0 ≤ h0.size) (P_Old : Old Z n0 h0) (P_ZS_java_lang_String_COMPACT_STRINGS : Sta Z Z.heap "java/lang/String" "COMPACT_STRINGS" "Z" (.int zc)) (hcs : ¬ zc = 0) (P_F_p0_coder : Fld Z h0 p0 "java/lang/String" "coder" "B" (.int 0)) :
    MetFree l (⟨"java/lang/String", "coder", "()B"⟩ : MethodName) (head1 (Jvm.Cond.code (⟨"java/lang/String", "coder", "()B"⟩ : MethodName) jdk_42_method_152_code 1 (some .byte) :: ws) ({ frames := 0, cells := 0, slots := 0, locals := 0 } : Room)) (fun a U => a = #[(.ref p0)] ∧ Z.Warmed39 U.vm ∧ U.heap = h0) (fun _ _ _ _ _ => True) (fun _ U o U' => ∃ v L, o = .returned v ∧ (Q15 Z p0 zc h0 n0) v U'.heap L ∧ FrameEnd U o U' L ({ frames := 0, cells := 0, slots := 0, locals := 0 } : Room).cells ({ frames := 0, cells := 0, slots := 0, locals := 0 } : Room).slots) := by
  refine MetFree.of_bodySF (plainFor_of_name pn_3) hisR ?_
  intro p e s m args below meth c s₁ Bd hml0 hP hK
  obtain ⟨rfl, hZ, hh⟩ := hP
  have hx := Bd.exec
  have hby := Bd.bytes
  have hml : c.maxLocals = 1 := hml0
  have hown : s.vm.findClass "java/lang/String" = some m.cls := findClass_of_methodNamed Bd.named
  have hnm := (name_of_methodNamed Bd.named Bd.method).1
  have hlk : meth.locks = false := BodyLoose.notSynchronized Bd
  have X0 : Stand p l e ({ frames := 0, cells := 0, slots := 0, locals := 0 } : Room) s m #[(.ref p0)] below meth c s₁ [] 0 0 := Stand.of_body Bd
  have e0 : s₁.heap = h0 := by rw [← hh, Bd.state]; rfl
  have N0 := Fr.nil n0
  show own_G p.tables e below (s₁.setTop (entryFrame m #[(.ref p0)] 1)) s ({ frames := 0, cells := 0, slots := 0, locals := 0 } : Room).cells ({ frames := 0, cells := 0, slots := 0, locals := 0 } : Room).slots (Q15 Z p0 zc h0 n0)
  refine own_go (fun _ k => castTop (ef_15 m p0) k) ?_
  show own_G _ _ _ (s₁.setTop (mkF m 0 #[.val (.ref p0)] [])) _ _ _ _
  obtain ⟨T1, X1, e1, st1⟩ := getS2 X0 hx hZ hown (host := "") (Or.inl (hw _ (List.mem_of_getElem? (i := 24) rfl))) Via.refl e0 (P_ZS_java_lang_String_COMPACT_STRINGS.ext P_Old.2) (g := (mkF m 0 #[.val (.ref p0)] [])) rfl (hb hby d15_0)
  refine own_go (fun _ k => st1 _ k) ?_
  show own_G _ _ _ (T1.setTop (mkF m 3 #[.val (.ref p0)] [(.int zc)])) _ _ _ _
  have hc2 : ¬ (zc = (0 : Int32)) := hcs
  refine own_go (fun _ k => XS.ifNo X1.here hx rfl (hb hby d15_3) rfl ((if0 _ _).trans (feq hc2).1) k) ?_
  show own_G _ _ _ (T1.setTop (mkF m 6 #[.val (.ref p0)] [])) _ _ _ _
  refine own_go (fun _ k => XS.aloadN X1.here hx rfl (hb hby d15_6) rfl rfl k) ?_
  show own_G _ _ _ (T1.setTop (mkF m 7 #[.val (.ref p0)] [(.ref p0)])) _ _ _ _
  obtain ⟨T3, X3, e3, st3⟩ := getF X1 hx hZ hown (host := "") (Or.inl (hw _ (List.mem_of_getElem? (i := 36) rfl))) Via.refl e1 P_F_p0_coder (g := (mkF m 7 #[.val (.ref p0)] [(.ref p0)])) rfl rfl (hb hby d15_7)
  refine own_go (fun _ k => st3 _ k) ?_
  show own_G _ _ _ (T3.setTop (mkF m 10 #[.val (.ref p0)] [(.int 0)])) _ _ _ _
  refine own_go (fun _ k => XS.goto X3.here hx rfl (pc0 := 10) (pc' := 14) rfl (hb hby d15_10) (by decide) (by decide) k) ?_
  show own_G _ _ _ (T3.setTop (mkF m 14 #[.val (.ref p0)] [(.int 0)])) _ _ _ _
  exact own_endN X3 hx hlk (t := .byte) Bd.returns (by simp) (hb hby d15_14) (by decide) (by decide) (Q := (Q15 Z p0 zc h0 n0)) (by rw [e3]; exact ⟨rfl, N0, rfl⟩)
theorem d18_0 : decode jdk_29_method_65_code 0 = .ok (.iload_n 0, 1) := by decide +kernel
theorem d18_1 : decode jdk_29_method_65_code 1 = .ok (.iload_n 1, 1) := by decide +kernel
theorem d18_2 : decode jdk_29_method_65_code 2 = .ok (.if_icmp .lt 7, 3) := by decide +kernel
theorem d18_5 : decode jdk_29_method_65_code 5 = .ok (.iload_n 0, 1) := by decide +kernel
theorem d18_6 : decode jdk_29_method_65_code 6 = .ok (.goto 4, 3) := by decide +kernel
theorem d18_9 : decode jdk_29_method_65_code 9 = .ok (.iload_n 1, 1) := by decide +kernel
theorem d18_10 : decode jdk_29_method_65_code 10 = .ok (.ireturn, 1) := by decide +kernel
def own_max_10 (p0 : Int32) (p1 : Int32) (w0 : Int32) : Int32 := w0
def own_max (p0 : Int32) (p1 : Int32) : Int32 := (if p0 < p1 then (own_max_10 p0 p1 p1) else (own_max_10 p0 p1 p0))
theorem ef_18 (m : MethodId) (p0 : Int32) (p1 : Int32) : entryFrame m #[(.int p0), (.int p1)] 2 = mkF m 0 #[.val (.int p0), .val (.int p1)] [] := by first | (simp [entryFrame, mkF, argsToLocals, Value.category]; done) | rfl
set_option maxRecDepth 65536 in
set_option maxHeartbeats 40000000 in
theorem rm18 (l : Launch) (Z : State) (a0 : Array Value) (hw : ∀ d ∈ tables_1, d.before a0 Z = true) (ws : List Jvm.Cond) (p0 : Int32) (p1 : Int32) (h0 : Heap) (n0 : Nat) :
    MetFree l (⟨"java/lang/Math", "max", "(II)I"⟩ : MethodName) (head1 (Jvm.Cond.code (⟨"java/lang/Math", "max", "(II)I"⟩ : MethodName) jdk_29_method_65_code 2 (some .int) :: ws) ({ frames := 0, cells := 0, slots := 0, locals := 0 } : Room)) (fun a U => a = #[(.int p0), (.int p1)] ∧ Z.Warmed39 U.vm ∧ U.heap = h0) (fun _ _ _ _ _ => True) (fun _ U o U' => ∃ v L, o = .returned v ∧ (own_P n0 h0 (some (.int (own_max p0 p1)))) v U'.heap L ∧ FrameEnd U o U' L ({ frames := 0, cells := 0, slots := 0, locals := 0 } : Room).cells ({ frames := 0, cells := 0, slots := 0, locals := 0 } : Room).slots) := by
  refine MetFree.of_bodySF (Jvm.Free.JP.mathPlain rfl (by decide +kernel)) hisR ?_
  intro p e s m args below meth c s₁ Bd hml0 hP hK
  obtain ⟨rfl, hZ, hh⟩ := hP
  have hx := Bd.exec
  have hby := Bd.bytes
  have hml : c.maxLocals = 2 := hml0
  have hown : s.vm.findClass "java/lang/Math" = some m.cls := findClass_of_methodNamed Bd.named
  have hnm := (name_of_methodNamed Bd.named Bd.method).1
  have hlk : meth.locks = false := BodyLoose.notSynchronized Bd
  have X0 : Stand p l e ({ frames := 0, cells := 0, slots := 0, locals := 0 } : Room) s m #[(.int p0), (.int p1)] below meth c s₁ [] 0 0 := Stand.of_body Bd
  have e0 : s₁.heap = h0 := by rw [← hh, Bd.state]; rfl
  have N0 := Fr.nil n0
  have J10 : ∀ (T : State) (Lc : List Loc) (X : Stand p l e ({ frames := 0, cells := 0, slots := 0, locals := 0 } : Room) s m #[(.int p0), (.int p1)] below meth c T Lc 0 0) (eT : T.heap = h0) (N : Fr n0 Lc) (w0 : Int32) , own_G p.tables e below (T.setTop (mkF m 10 #[.val (.int p0), .val (.int p1)] [(.int w0)])) s ({ frames := 0, cells := 0, slots := 0, locals := 0 } : Room).cells ({ frames := 0, cells := 0, slots := 0, locals := 0 } : Room).slots (own_P n0 h0 (some (.int (own_max_10 p0 p1 w0)))) := by
    intro T Lc X eT N w0 
    show own_G _ _ _ _ _ _ _ (own_P n0 h0 (some (.int (w0))))
    exact own_endI X hx hlk Bd.returns (hb hby d18_10) (by decide) (by decide) ⟨rfl, N, eT⟩
  show own_G p.tables e below (s₁.setTop (entryFrame m #[(.int p0), (.int p1)] 2)) s ({ frames := 0, cells := 0, slots := 0, locals := 0 } : Room).cells ({ frames := 0, cells := 0, slots := 0, locals := 0 } : Room).slots (own_P n0 h0 (some (.int ((if p0 < p1 then (own_max_10 p0 p1 p1) else (own_max_10 p0 p1 p0))))))
  refine own_go (fun _ k => castTop (ef_18 m p0 p1) k) ?_
  refine own_go (fun _ k => XS.iloadN X0.here hx rfl (hb hby d18_0) rfl k) ?_
  show own_G _ _ _ (s₁.setTop (mkF m 1 #[.val (.int p0), .val (.int p1)] [(.int p0)])) _ _ _ _
  refine own_go (fun _ k => XS.iloadN X0.here hx rfl (hb hby d18_1) rfl k) ?_
  show own_G _ _ _ (s₁.setTop (mkF m 2 #[.val (.int p0), .val (.int p1)] [(.int p1), (.int p0)])) _ _ _ _
  by_cases hc1 : p0 < p1
  · refine own_itI hc1 ?_
    refine own_go (fun _ k => XS.icmpYes X0.here hx rfl (pc0 := 2) (pc' := 9) rfl (hb hby d18_2) rfl (tlt hc1).1 (by decide) (by decide) k) ?_
    show own_G _ _ _ (s₁.setTop (mkF m 9 #[.val (.int p0), .val (.int p1)] [])) _ _ _ _
    refine own_go (fun _ k => XS.iloadN X0.here hx rfl (hb hby d18_9) rfl k) ?_
    show own_G _ _ _ (s₁.setTop (mkF m 10 #[.val (.int p0), .val (.int p1)] [(.int p1)])) _ _ _ _
    exact J10 _ _ X0 e0 N0 p1 
  · refine own_ifI hc1 ?_
    refine own_go (fun _ k => XS.icmpNo X0.here hx rfl (hb hby d18_2) rfl (flt hc1).1 k) ?_
    show own_G _ _ _ (s₁.setTop (mkF m 5 #[.val (.int p0), .val (.int p1)] [])) _ _ _ _
    refine own_go (fun _ k => XS.iloadN X0.here hx rfl (hb hby d18_5) rfl k) ?_
    show own_G _ _ _ (s₁.setTop (mkF m 6 #[.val (.int p0), .val (.int p1)] [(.int p0)])) _ _ _ _
    refine own_go (fun _ k => XS.goto X0.here hx rfl (pc0 := 6) (pc' := 10) rfl (hb hby d18_6) (by decide) (by decide) k) ?_
    show own_G _ _ _ (s₁.setTop (mkF m 10 #[.val (.int p0), .val (.int p1)] [(.int p0)])) _ _ _ _
    exact J10 _ _ X0 e0 N0 p0 
theorem d19_0 : decode jdk_29_method_69_code 0 = .ok (.iload_n 0, 1) := by decide +kernel
theorem d19_1 : decode jdk_29_method_69_code 1 = .ok (.iload_n 1, 1) := by decide +kernel
theorem d19_2 : decode jdk_29_method_69_code 2 = .ok (.if_icmp .gt 7, 3) := by decide +kernel
theorem d19_5 : decode jdk_29_method_69_code 5 = .ok (.iload_n 0, 1) := by decide +kernel
theorem d19_6 : decode jdk_29_method_69_code 6 = .ok (.goto 4, 3) := by decide +kernel
theorem d19_9 : decode jdk_29_method_69_code 9 = .ok (.iload_n 1, 1) := by decide +kernel
theorem d19_10 : decode jdk_29_method_69_code 10 = .ok (.ireturn, 1) := by decide +kernel
def own_min_10 (p0 : Int32) (p1 : Int32) (w0 : Int32) : Int32 := w0
def own_min (p0 : Int32) (p1 : Int32) : Int32 := (if p1 < p0 then (own_min_10 p0 p1 p1) else (own_min_10 p0 p1 p0))
theorem ef_19 (m : MethodId) (p0 : Int32) (p1 : Int32) : entryFrame m #[(.int p0), (.int p1)] 2 = mkF m 0 #[.val (.int p0), .val (.int p1)] [] := by first | (simp [entryFrame, mkF, argsToLocals, Value.category]; done) | rfl
set_option maxRecDepth 65536 in
set_option maxHeartbeats 40000000 in
theorem rm19 (l : Launch) (Z : State) (a0 : Array Value) (hw : ∀ d ∈ tables_1, d.before a0 Z = true) (ws : List Jvm.Cond) (p0 : Int32) (p1 : Int32) (h0 : Heap) (n0 : Nat) :
    MetFree l (⟨"java/lang/Math", "min", "(II)I"⟩ : MethodName) (head1 (Jvm.Cond.code (⟨"java/lang/Math", "min", "(II)I"⟩ : MethodName) jdk_29_method_69_code 2 (some .int) :: ws) ({ frames := 0, cells := 0, slots := 0, locals := 0 } : Room)) (fun a U => a = #[(.int p0), (.int p1)] ∧ Z.Warmed39 U.vm ∧ U.heap = h0) (fun _ _ _ _ _ => True) (fun _ U o U' => ∃ v L, o = .returned v ∧ (own_P n0 h0 (some (.int (own_min p0 p1)))) v U'.heap L ∧ FrameEnd U o U' L ({ frames := 0, cells := 0, slots := 0, locals := 0 } : Room).cells ({ frames := 0, cells := 0, slots := 0, locals := 0 } : Room).slots) := by
  refine MetFree.of_bodySF (Jvm.Free.JP.mathPlain rfl (by decide +kernel)) hisR ?_
  intro p e s m args below meth c s₁ Bd hml0 hP hK
  obtain ⟨rfl, hZ, hh⟩ := hP
  have hx := Bd.exec
  have hby := Bd.bytes
  have hml : c.maxLocals = 2 := hml0
  have hown : s.vm.findClass "java/lang/Math" = some m.cls := findClass_of_methodNamed Bd.named
  have hnm := (name_of_methodNamed Bd.named Bd.method).1
  have hlk : meth.locks = false := BodyLoose.notSynchronized Bd
  have X0 : Stand p l e ({ frames := 0, cells := 0, slots := 0, locals := 0 } : Room) s m #[(.int p0), (.int p1)] below meth c s₁ [] 0 0 := Stand.of_body Bd
  have e0 : s₁.heap = h0 := by rw [← hh, Bd.state]; rfl
  have N0 := Fr.nil n0
  have J10 : ∀ (T : State) (Lc : List Loc) (X : Stand p l e ({ frames := 0, cells := 0, slots := 0, locals := 0 } : Room) s m #[(.int p0), (.int p1)] below meth c T Lc 0 0) (eT : T.heap = h0) (N : Fr n0 Lc) (w0 : Int32) , own_G p.tables e below (T.setTop (mkF m 10 #[.val (.int p0), .val (.int p1)] [(.int w0)])) s ({ frames := 0, cells := 0, slots := 0, locals := 0 } : Room).cells ({ frames := 0, cells := 0, slots := 0, locals := 0 } : Room).slots (own_P n0 h0 (some (.int (own_min_10 p0 p1 w0)))) := by
    intro T Lc X eT N w0 
    show own_G _ _ _ _ _ _ _ (own_P n0 h0 (some (.int (w0))))
    exact own_endI X hx hlk Bd.returns (hb hby d19_10) (by decide) (by decide) ⟨rfl, N, eT⟩
  show own_G p.tables e below (s₁.setTop (entryFrame m #[(.int p0), (.int p1)] 2)) s ({ frames := 0, cells := 0, slots := 0, locals := 0 } : Room).cells ({ frames := 0, cells := 0, slots := 0, locals := 0 } : Room).slots (own_P n0 h0 (some (.int ((if p1 < p0 then (own_min_10 p0 p1 p1) else (own_min_10 p0 p1 p0))))))
  refine own_go (fun _ k => castTop (ef_19 m p0 p1) k) ?_
  refine own_go (fun _ k => XS.iloadN X0.here hx rfl (hb hby d19_0) rfl k) ?_
  show own_G _ _ _ (s₁.setTop (mkF m 1 #[.val (.int p0), .val (.int p1)] [(.int p0)])) _ _ _ _
  refine own_go (fun _ k => XS.iloadN X0.here hx rfl (hb hby d19_1) rfl k) ?_
  show own_G _ _ _ (s₁.setTop (mkF m 2 #[.val (.int p0), .val (.int p1)] [(.int p1), (.int p0)])) _ _ _ _
  by_cases hc1 : p1 < p0
  · refine own_itI hc1 ?_
    refine own_go (fun _ k => XS.icmpYes X0.here hx rfl (pc0 := 2) (pc' := 9) rfl (hb hby d19_2) rfl (tlt hc1).2.2.1 (by decide) (by decide) k) ?_
    show own_G _ _ _ (s₁.setTop (mkF m 9 #[.val (.int p0), .val (.int p1)] [])) _ _ _ _
    refine own_go (fun _ k => XS.iloadN X0.here hx rfl (hb hby d19_9) rfl k) ?_
    show own_G _ _ _ (s₁.setTop (mkF m 10 #[.val (.int p0), .val (.int p1)] [(.int p1)])) _ _ _ _
    exact J10 _ _ X0 e0 N0 p1 
  · refine own_ifI hc1 ?_
    refine own_go (fun _ k => XS.icmpNo X0.here hx rfl (hb hby d19_2) rfl (flt hc1).2.2.1 k) ?_
    show own_G _ _ _ (s₁.setTop (mkF m 5 #[.val (.int p0), .val (.int p1)] [])) _ _ _ _
    refine own_go (fun _ k => XS.iloadN X0.here hx rfl (hb hby d19_5) rfl k) ?_
    show own_G _ _ _ (s₁.setTop (mkF m 6 #[.val (.int p0), .val (.int p1)] [(.int p0)])) _ _ _ _
    refine own_go (fun _ k => XS.goto X0.here hx rfl (pc0 := 6) (pc' := 10) rfl (hb hby d19_6) (by decide) (by decide) k) ?_
    show own_G _ _ _ (s₁.setTop (mkF m 10 #[.val (.int p0), .val (.int p1)] [(.int p0)])) _ _ _ _
    exact J10 _ _ X0 e0 N0 p0 
theorem d17_0 : decode jdk_43_method_4_code 0 = .ok (.iload_n 0, 1) := by decide +kernel
theorem d17_1 : decode jdk_43_method_4_code 1 = .ok (.ifCond .lt 14, 3) := by decide +kernel
theorem d17_4 : decode jdk_43_method_4_code 4 = .ok (.iload_n 0, 1) := by decide +kernel
theorem d17_5 : decode jdk_43_method_4_code 5 = .ok (.sipush 255, 3) := by decide +kernel
theorem d17_8 : decode jdk_43_method_4_code 8 = .ok (.if_icmp .gt 7, 3) := by decide +kernel
theorem d17_11 : decode jdk_43_method_4_code 11 = .ok (.iconst 1, 1) := by decide +kernel
theorem d17_12 : decode jdk_43_method_4_code 12 = .ok (.goto 4, 3) := by decide +kernel
theorem d17_15 : decode jdk_43_method_4_code 15 = .ok (.iconst 0, 1) := by decide +kernel
theorem d17_16 : decode jdk_43_method_4_code 16 = .ok (.ireturn, 1) := by decide +kernel
def own_can_16 (p0 : Int32) (w0 : Int32) : Int32 := (w0 &&& 1)
def own_can_15 (p0 : Int32)  : Int32 := (own_can_16 p0 (0 : Int32))
def own_can (p0 : Int32) : Int32 := (if p0 < (0 : Int32) then (own_can_15 p0 ) else (if (255 : Int32) < p0 then (own_can_15 p0 ) else (own_can_16 p0 (1 : Int32))))
theorem pn_4 : plainName "java/lang/StringLatin1" = true := by first | (simp [plainName, overriddenIn]; done) | decide +kernel
theorem ef_17 (m : MethodId) (p0 : Int32) : entryFrame m #[(.int p0)] 1 = mkF m 0 #[.val (.int p0)] [] := by first | (simp [entryFrame, mkF, argsToLocals, Value.category]; done) | rfl
set_option maxRecDepth 65536 in
set_option maxHeartbeats 40000000 in
theorem rm17 (l : Launch) (Z : State) (a0 : Array Value) (hw : ∀ d ∈ tables_1, d.before a0 Z = true) (ws : List Jvm.Cond) (p0 : Int32) (h0 : Heap) (n0 : Nat) :
    MetFree l (⟨"java/lang/StringLatin1", "canEncode", "(I)Z"⟩ : MethodName) (head1 (Jvm.Cond.code (⟨"java/lang/StringLatin1", "canEncode", "(I)Z"⟩ : MethodName) jdk_43_method_4_code 1 (some .boolean) :: ws) ({ frames := 0, cells := 0, slots := 0, locals := 0 } : Room)) (fun a U => a = #[(.int p0)] ∧ Z.Warmed39 U.vm ∧ U.heap = h0) (fun _ _ _ _ _ => True) (fun _ U o U' => ∃ v L, o = .returned v ∧ (own_P n0 h0 (some (.int (own_can p0)))) v U'.heap L ∧ FrameEnd U o U' L ({ frames := 0, cells := 0, slots := 0, locals := 0 } : Room).cells ({ frames := 0, cells := 0, slots := 0, locals := 0 } : Room).slots) := by
  refine MetFree.of_bodySF (plainFor_of_name pn_4) hisR ?_
  intro p e s m args below meth c s₁ Bd hml0 hP hK
  obtain ⟨rfl, hZ, hh⟩ := hP
  have hx := Bd.exec
  have hby := Bd.bytes
  have hml : c.maxLocals = 1 := hml0
  have hown : s.vm.findClass "java/lang/StringLatin1" = some m.cls := findClass_of_methodNamed Bd.named
  have hnm := (name_of_methodNamed Bd.named Bd.method).1
  have hlk : meth.locks = false := BodyLoose.notSynchronized Bd
  have X0 : Stand p l e ({ frames := 0, cells := 0, slots := 0, locals := 0 } : Room) s m #[(.int p0)] below meth c s₁ [] 0 0 := Stand.of_body Bd
  have e0 : s₁.heap = h0 := by rw [← hh, Bd.state]; rfl
  have N0 := Fr.nil n0
  have J16 : ∀ (T : State) (Lc : List Loc) (X : Stand p l e ({ frames := 0, cells := 0, slots := 0, locals := 0 } : Room) s m #[(.int p0)] below meth c T Lc 0 0) (eT : T.heap = h0) (N : Fr n0 Lc) (w0 : Int32) , own_G p.tables e below (T.setTop (mkF m 16 #[.val (.int p0)] [(.int w0)])) s ({ frames := 0, cells := 0, slots := 0, locals := 0 } : Room).cells ({ frames := 0, cells := 0, slots := 0, locals := 0 } : Room).slots (own_P n0 h0 (some (.int (own_can_16 p0 w0)))) := by
    intro T Lc X eT N w0 
    show own_G _ _ _ _ _ _ _ (own_P n0 h0 (some (.int ((w0 &&& 1)))))
    exact own_endN X hx hlk (t := .boolean) Bd.returns (by simp) (hb hby d17_16) (by decide) (by decide) ⟨rfl, N, eT⟩
  have J15 : ∀ (T : State) (Lc : List Loc) (X : Stand p l e ({ frames := 0, cells := 0, slots := 0, locals := 0 } : Room) s m #[(.int p0)] below meth c T Lc 0 0) (eT : T.heap = h0) (N : Fr n0 Lc)  , own_G p.tables e below (T.setTop (mkF m 15 #[.val (.int p0)] [])) s ({ frames := 0, cells := 0, slots := 0, locals := 0 } : Room).cells ({ frames := 0, cells := 0, slots := 0, locals := 0 } : Room).slots (own_P n0 h0 (some (.int (own_can_15 p0 )))) := by
    intro T Lc X eT N  
    show own_G _ _ _ _ _ _ _ (own_P n0 h0 (some (.int ((own_can_16 p0 (0 : Int32))))))
    refine own_go (fun _ k => XS.iconst X.here hx rfl (hb hby d17_15) k) ?_
    show own_G _ _ _ (T.setTop (mkF m 16 #[.val (.int p0)] [(.int (0 : Int32))])) _ _ _ _
    exact J16 _ _ X eT N (0 : Int32) 
  show own_G p.tables e below (s₁.setTop (entryFrame m #[(.int p0)] 1)) s ({ frames := 0, cells := 0, slots := 0, locals := 0 } : Room).cells ({ frames := 0, cells := 0, slots := 0, locals := 0 } : Room).slots (own_P n0 h0 (some (.int ((if p0 < (0 : Int32) then (own_can_15 p0 ) else (if (255 : Int32) < p0 then (own_can_15 p0 ) else (own_can_16 p0 (1 : Int32))))))))
  refine own_go (fun _ k => castTop (ef_17 m p0) k) ?_
  refine own_go (fun _ k => XS.iloadN X0.here hx rfl (hb hby d17_0) rfl k) ?_
  show own_G _ _ _ (s₁.setTop (mkF m 1 #[.val (.int p0)] [(.int p0)])) _ _ _ _
  by_cases hc1 : p0 < (0 : Int32)
  · refine own_itI hc1 ?_
    refine own_go (fun _ k => XS.ifYes X0.here hx rfl (pc0 := 1) (pc' := 15) rfl (hb hby d17_1) rfl ((if0 _ _).trans (tlt hc1).1) (by decide) (by decide) k) ?_
    show own_G _ _ _ (s₁.setTop (mkF m 15 #[.val (.int p0)] [])) _ _ _ _
    exact J15 _ _ X0 e0 N0  
  · refine own_ifI hc1 ?_
    refine own_go (fun _ k => XS.ifNo X0.here hx rfl (hb hby d17_1) rfl ((if0 _ _).trans (flt hc1).1) k) ?_
    show own_G _ _ _ (s₁.setTop (mkF m 4 #[.val (.int p0)] [])) _ _ _ _
    refine own_go (fun _ k => XS.iloadN X0.here hx rfl (hb hby d17_4) rfl k) ?_
    show own_G _ _ _ (s₁.setTop (mkF m 5 #[.val (.int p0)] [(.int p0)])) _ _ _ _
    refine own_go (fun _ k => XS.sipush X0.here hx rfl (hb hby d17_5) k) ?_
    show own_G _ _ _ (s₁.setTop (mkF m 8 #[.val (.int p0)] [(.int (255 : Int32)), (.int p0)])) _ _ _ _
    by_cases hc2 : (255 : Int32) < p0
    · refine own_itI hc2 ?_
      refine own_go (fun _ k => XS.icmpYes X0.here hx rfl (pc0 := 8) (pc' := 15) rfl (hb hby d17_8) rfl (tlt hc2).2.2.1 (by decide) (by decide) k) ?_
      show own_G _ _ _ (s₁.setTop (mkF m 15 #[.val (.int p0)] [])) _ _ _ _
      exact J15 _ _ X0 e0 N0  
    · refine own_ifI hc2 ?_
      refine own_go (fun _ k => XS.icmpNo X0.here hx rfl (hb hby d17_8) rfl (flt hc2).2.2.1 k) ?_
      show own_G _ _ _ (s₁.setTop (mkF m 11 #[.val (.int p0)] [])) _ _ _ _
      refine own_go (fun _ k => XS.iconst X0.here hx rfl (hb hby d17_11) k) ?_
      show own_G _ _ _ (s₁.setTop (mkF m 12 #[.val (.int p0)] [(.int (1 : Int32))])) _ _ _ _
      refine own_go (fun _ k => XS.goto X0.here hx rfl (pc0 := 12) (pc' := 16) rfl (hb hby d17_12) (by decide) (by decide) k) ?_
      show own_G _ _ _ (s₁.setTop (mkF m 16 #[.val (.int p0)] [(.int (1 : Int32))])) _ _ _ _
      exact J16 _ _ X0 e0 N0 (1 : Int32) 
theorem d14_0 : decode jdk_42_method_54_code 0 = .ok (.aload_n 0, 1) := by decide +kernel
theorem d14_1 : decode jdk_42_method_54_code 1 = .ok (.getfield 9, 3) := by decide +kernel
theorem d14_4 : decode jdk_42_method_54_code 4 = .ok (.arraylength, 1) := by decide +kernel
theorem d14_5 : decode jdk_42_method_54_code 5 = .ok (.aload_n 0, 1) := by decide +kernel
theorem d14_6 : decode jdk_42_method_54_code 6 = .ok (.invokevirtual 335, 3) := by decide +kernel
theorem d14_9 : decode jdk_42_method_54_code 9 = .ok (.ishr, 1) := by decide +kernel
theorem d14_10 : decode jdk_42_method_54_code 10 = .ok (.ireturn, 1) := by decide +kernel
theorem pd_1 : parseMethodDescriptor "()B" = some ⟨[], some .byte⟩ := by decide +kernel
theorem ef_14a (m : MethodId) (p0 : Addr) : entryFrame m #[(.ref p0)] 1 = mkF m 0 #[.val (.ref p0)] [] := by first | (simp [entryFrame, mkF, argsToLocals, Value.category]; done) | rfl
def Q14a (Z : State) (p0 : Addr) (zc : Int32) (tv : Addr) (kb : ClassId) (b0 : Int32) (b1 : Int32) (b2 : Int32) (b3 : Int32) (b4 : Int32) (b5 : Int32) (h0 : Heap) (n0 : Nat) (v : Option Value) (h : Heap) (L : List Loc) : Prop := v = some (.int (6 : Int32)) ∧ Fr n0 L ∧ h = h0
set_option maxRecDepth 65536 in
set_option maxHeartbeats 40000000 in
theorem rm14a (l : Launch) (Z : State) (a0 : Array Value) (hw : ∀ d ∈ tables_1, d.before a0 Z = true) (ws : List Jvm.Cond) (p0 : Addr) (zc : Int32) (tv : Addr) (kb : ClassId) (b0 : Int32) (b1 : Int32) (b2 : Int32) (b3 : Int32) (b4 : Int32) (b5 : Int32) (h0 : Heap) (n0 : Nat) (Z0 : n0 ≤ h0.size) (P_Old : Old Z n0 h0) (P_ZS_java_lang_String_COMPACT_STRINGS : Sta Z Z.heap "java/lang/String" "COMPACT_STRINGS" "Z" (.int zc)) (hcs : ¬ zc = 0) (P_E_p0 : Exa Z h0 p0 "java/lang/String") (P_F_p0_coder : Fld Z h0 p0 "java/lang/String" "coder" "B" (.int 0)) (P_F_p0_value : Fld Z h0 p0 "java/lang/String" "value" "[B" (.ref tv)) (P_V_tv : Arv Z h0 tv kb .byte (6 : Int32) [(.int b0), (.int b1), (.int b2), (.int b3), (.int b4), (.int b5)] (.int (0 : Int32))) :
    MetFree l (⟨"java/lang/String", "length", "()I"⟩ : MethodName) (head1 (Jvm.Cond.code (⟨"java/lang/String", "length", "()I"⟩ : MethodName) jdk_42_method_54_code 1 (some .int) :: ws) ({ frames := 1, cells := 0, slots := 0, locals := 13 } : Room)) (fun a U => a = #[(.ref p0)] ∧ Z.Warmed39 U.vm ∧ U.heap = h0) (fun _ _ _ _ _ => True) (fun _ U o U' => ∃ v L, o = .returned v ∧ (Q14a Z p0 zc tv kb b0 b1 b2 b3 b4 b5 h0 n0) v U'.heap L ∧ FrameEnd U o U' L ({ frames := 1, cells := 0, slots := 0, locals := 13 } : Room).cells ({ frames := 1, cells := 0, slots := 0, locals := 13 } : Room).slots) := by
  refine MetFree.of_bodySF (plainFor_of_name pn_3) hisR ?_
  intro p e s m args below meth c s₁ Bd hml0 hP hK
  obtain ⟨rfl, hZ, hh⟩ := hP
  have hx := Bd.exec
  have hby := Bd.bytes
  have hml : c.maxLocals = 1 := hml0
  have hown : s.vm.findClass "java/lang/String" = some m.cls := findClass_of_methodNamed Bd.named
  have hnm := (name_of_methodNamed Bd.named Bd.method).1
  have hlk : meth.locks = false := BodyLoose.notSynchronized Bd
  have X0 : Stand p l e ({ frames := 1, cells := 0, slots := 0, locals := 13 } : Room) s m #[(.ref p0)] below meth c s₁ [] 0 0 := Stand.of_body Bd
  have e0 : s₁.heap = h0 := by rw [← hh, Bd.state]; rfl
  have N0 := Fr.nil n0
  show own_G p.tables e below (s₁.setTop (entryFrame m #[(.ref p0)] 1)) s ({ frames := 1, cells := 0, slots := 0, locals := 13 } : Room).cells ({ frames := 1, cells := 0, slots := 0, locals := 13 } : Room).slots (Q14a Z p0 zc tv kb b0 b1 b2 b3 b4 b5 h0 n0)
  refine own_go (fun _ k => castTop (ef_14a m p0) k) ?_
  show own_G _ _ _ (s₁.setTop (mkF m 0 #[.val (.ref p0)] [])) _ _ _ _
  refine own_go (fun _ k => XS.aloadN X0.here hx rfl (hb hby d14_0) rfl rfl k) ?_
  show own_G _ _ _ (s₁.setTop (mkF m 1 #[.val (.ref p0)] [(.ref p0)])) _ _ _ _
  obtain ⟨T1, X1, e1, st1⟩ := getF X0 hx hZ hown (host := "") (Or.inl (hw _ (List.mem_of_getElem? (i := 38) rfl))) Via.refl e0 P_F_p0_value (g := (mkF m 1 #[.val (.ref p0)] [(.ref p0)])) rfl rfl (hb hby d14_1)
  refine own_go (fun _ k => st1 _ k) ?_
  show own_G _ _ _ (T1.setTop (mkF m 4 #[.val (.ref p0)] [(.ref tv)])) _ _ _ _
  obtain ⟨cl2, Ar2, -, S2, Ng2, -, -⟩ := id P_V_tv
  refine own_go (fun _ k => X1.arraylength hx (by rw [e1]; exact Ar2.1) (State.isArrayOf_alike hZ.alike Ar2.2.1) (g := (mkF m 4 #[.val (.ref p0)] [(.ref tv)])) rfl rfl (hb hby d14_4) _ k) ?_
  rw [len_of S2 Ng2]
  show own_G _ _ _ (T1.setTop (mkF m 5 #[.val (.ref p0)] [(.int (6 : Int32))])) _ _ _ _
  refine own_go (fun _ k => XS.aloadN X1.here hx rfl (hb hby d14_5) rfl rfl k) ?_
  show own_G _ _ _ (T1.setTop (mkF m 6 #[.val (.ref p0)] [(.ref p0), (.int (6 : Int32))])) _ _ _ _
  obtain ⟨cq3, kq3, q3a, q3b, q3c⟩ := isOf hZ e1 P_E_p0
  obtain ⟨_, _, ⟨T3, L3, k3, n3⟩, -, X3, ⟨Lc3, hQ3, l3, y3, z3⟩, st3⟩ := X1.virtualBack hx (y := (⟨"java/lang/String", "coder", "()B"⟩ : MethodName)) (z := (⟨"java/lang/String", "coder", "()B"⟩ : MethodName)) hown (mvT hZ (hw _ (List.mem_of_getElem? (i := 76) rfl))) (mvT hZ (hw _ (List.mem_of_getElem? (i := 77) rfl))) (notFace_of_selects (args := #[]) (mvT hZ (hw _ (List.mem_of_getElem? (i := 79) rfl)))) (mvT hZ (hw _ (List.mem_of_getElem? (i := 79) rfl))) (mvT hZ (hw _ (List.mem_of_getElem? (i := 78) rfl))) (by decide) (backOf (W := 1) (rm15 l Z a0 hw [] p0 zc h0 n0 Z0 P_Old P_ZS_java_lang_String_COMPACT_STRINGS (by assumption) P_F_p0_coder) hZ (hw _ (List.mem_of_getElem? (i := 80) rfl)) (hw _ (List.mem_of_getElem? (i := 13) rfl)) (by decide) (by decide)) q3a q3c (g := (mkF m 6 #[.val (.ref p0)] [(.ref p0), (.int (6 : Int32))])) rfl (by rw [hml]; rfl) (Steps.refl _) (argsL := []) (rest := [(.int (6 : Int32))]) (lenOf pd_1 rfl) rfl (by show 2 * 0 + _ ≤ _; exact Nat.le_of_eq rfl) (hb hby d14_6) (fun _ _ => ⟨rfl, e1, (by decide : 0 + 0 ≤ _), (by decide : 0 + 0 ≤ _)⟩)
  dsimp only [Pt.U, Pt.locs, Pt.cells, Pt.slots] at X3 l3 y3 z3 st3 hQ3
  rw [l3] at X3
  subst y3 z3
  obtain ⟨rfl, Nq3, eh3⟩ := hQ3
  have N3 := Fr.app N0 Nq3
  refine own_tr st3 ?_
  show own_G _ _ _ (T3.setTop (mkF m 9 #[.val (.ref p0)] [(.int (0 : Int32)), (.int (6 : Int32))])) _ _ _ _
  refine own_go (fun _ k => XS.ishr X3.here hx rfl (hb hby d14_9) rfl k) ?_
  show own_G _ _ _ (T3.setTop (mkF m 10 #[.val (.ref p0)] [(.int (6 : Int32))])) _ _ _ _
  exact own_endI X3 hx hlk Bd.returns (hb hby d14_10) (by decide) (by decide) (Q := (Q14a Z p0 zc tv kb b0 b1 b2 b3 b4 b5 h0 n0)) (by rw [eh3]; exact ⟨rfl, N3, rfl⟩)
theorem d20_0 : decode jdk_43_method_23_code 0 = .ok (.iload_n 1, 1) := by decide +kernel
theorem d20_1 : decode jdk_43_method_23_code 1 = .ok (.i2b, 1) := by decide +kernel
theorem d20_2 : decode jdk_43_method_23_code 2 = .ok (.istore 4, 2) := by decide +kernel
theorem d20_4 : decode jdk_43_method_23_code 4 = .ok (.iload_n 2, 1) := by decide +kernel
theorem d20_5 : decode jdk_43_method_23_code 5 = .ok (.istore 5, 2) := by decide +kernel
theorem d20_7 : decode jdk_43_method_23_code 7 = .ok (.iload 5, 2) := by decide +kernel
theorem d20_9 : decode jdk_43_method_23_code 9 = .ok (.iload_n 3, 1) := by decide +kernel
theorem d20_10 : decode jdk_43_method_23_code 10 = .ok (.if_icmp .ge 21, 3) := by decide +kernel
theorem d20_13 : decode jdk_43_method_23_code 13 = .ok (.aload_n 0, 1) := by decide +kernel
theorem d20_14 : decode jdk_43_method_23_code 14 = .ok (.iload 5, 2) := by decide +kernel
theorem d20_16 : decode jdk_43_method_23_code 16 = .ok (.baload, 1) := by decide +kernel
theorem d20_17 : decode jdk_43_method_23_code 17 = .ok (.iload 4, 2) := by decide +kernel
theorem d20_19 : decode jdk_43_method_23_code 19 = .ok (.if_icmp .ne 6, 3) := by decide +kernel
theorem d20_22 : decode jdk_43_method_23_code 22 = .ok (.iload 5, 2) := by decide +kernel
theorem d20_24 : decode jdk_43_method_23_code 24 = .ok (.ireturn, 1) := by decide +kernel
theorem d20_25 : decode jdk_43_method_23_code 25 = .ok (.iinc 5 1, 3) := by decide +kernel
theorem d20_28 : decode jdk_43_method_23_code 28 = .ok (.goto (-21), 3) := by decide +kernel
theorem d20_31 : decode jdk_43_method_23_code 31 = .ok (.iconst (-1), 1) := by decide +kernel
theorem d20_32 : decode jdk_43_method_23_code 32 = .ok (.ireturn, 1) := by decide +kernel
theorem ef_20a (m : MethodId) (tv : Addr) : entryFrame m #[(.ref tv), (.int (46 : Int32)), (.int (0 : Int32)), (.int (6 : Int32))] 6 = mkF m 0 #[.val (.ref tv), .val (.int (46 : Int32)), .val (.int (0 : Int32)), .val (.int (6 : Int32)), .unset, .unset] [] := by first | (simp [entryFrame, mkF, argsToLocals, Value.category]; done) | rfl
def Q20a (Z : State) (tv : Addr) (kb : ClassId) (b0 : Int32) (b1 : Int32) (b2 : Int32) (b3 : Int32) (b4 : Int32) (b5 : Int32) (h0 : Heap) (n0 : Nat) (v : Option Value) (h : Heap) (L : List Loc) : Prop := v = some (.int (own_f6 b0 b1 b2 b3 b4 b5)) ∧ Fr n0 L ∧ h = h0
set_option maxRecDepth 65536 in
set_option maxHeartbeats 40000000 in
theorem rm20a (l : Launch) (Z : State) (a0 : Array Value) (hw : ∀ d ∈ tables_1, d.before a0 Z = true) (ws : List Jvm.Cond) (tv : Addr) (kb : ClassId) (b0 : Int32) (b1 : Int32) (b2 : Int32) (b3 : Int32) (b4 : Int32) (b5 : Int32) (h0 : Heap) (n0 : Nat) (Z0 : n0 ≤ h0.size) (P_V_tv : Arv Z h0 tv kb .byte (6 : Int32) [(.int b0), (.int b1), (.int b2), (.int b3), (.int b4), (.int b5)] (.int (0 : Int32))) :
    MetFree l (⟨"java/lang/StringLatin1", "indexOfChar", "([BIII)I"⟩ : MethodName) (head1 (Jvm.Cond.code (⟨"java/lang/StringLatin1", "indexOfChar", "([BIII)I"⟩ : MethodName) jdk_43_method_23_code 6 (some .int) :: ws) ({ frames := 0, cells := 0, slots := 0, locals := 0 } : Room)) (fun a U => a = #[(.ref tv), (.int (46 : Int32)), (.int (0 : Int32)), (.int (6 : Int32))] ∧ Z.Warmed39 U.vm ∧ U.heap = h0) (fun _ _ _ _ _ => True) (fun _ U o U' => ∃ v L, o = .returned v ∧ (Q20a Z tv kb b0 b1 b2 b3 b4 b5 h0 n0) v U'.heap L ∧ FrameEnd U o U' L ({ frames := 0, cells := 0, slots := 0, locals := 0 } : Room).cells ({ frames := 0, cells := 0, slots := 0, locals := 0 } : Room).slots) := by
  refine MetFree.of_bodySF (plainFor_of_name pn_4) hisR ?_
  intro p e s m args below meth c s₁ Bd hml0 hP hK
  obtain ⟨rfl, hZ, hh⟩ := hP
  have hx := Bd.exec
  have hby := Bd.bytes
  have hml : c.maxLocals = 6 := hml0
  have hown : s.vm.findClass "java/lang/StringLatin1" = some m.cls := findClass_of_methodNamed Bd.named
  have hnm := (name_of_methodNamed Bd.named Bd.method).1
  have hlk : meth.locks = false := BodyLoose.notSynchronized Bd
  have X0 : Stand p l e ({ frames := 0, cells := 0, slots := 0, locals := 0 } : Room) s m #[(.ref tv), (.int (46 : Int32)), (.int (0 : Int32)), (.int (6 : Int32))] below meth c s₁ [] 0 0 := Stand.of_body Bd
  have e0 : s₁.heap = h0 := by rw [← hh, Bd.state]; rfl
  have N0 := Fr.nil n0
  show own_G p.tables e below (s₁.setTop (entryFrame m #[(.ref tv), (.int (46 : Int32)), (.int (0 : Int32)), (.int (6 : Int32))] 6)) s ({ frames := 0, cells := 0, slots := 0, locals := 0 } : Room).cells ({ frames := 0, cells := 0, slots := 0, locals := 0 } : Room).slots (Q20a Z tv kb b0 b1 b2 b3 b4 b5 h0 n0)
  refine own_go (fun _ k => castTop (ef_20a m tv) k) ?_
  show own_G _ _ _ (s₁.setTop (mkF m 0 #[.val (.ref tv), .val (.int (46 : Int32)), .val (.int (0 : Int32)), .val (.int (6 : Int32)), .unset, .unset] [])) _ _ _ _
  refine own_go (fun _ k => XS.iloadN X0.here hx rfl (hb hby d20_0) rfl k) ?_
  show own_G _ _ _ (s₁.setTop (mkF m 1 #[.val (.ref tv), .val (.int (46 : Int32)), .val (.int (0 : Int32)), .val (.int (6 : Int32)), .unset, .unset] [(.int (46 : Int32))])) _ _ _ _
  refine own_go (fun _ k => XS.i2b X0.here hx rfl (hb hby d20_1) rfl k) ?_
  show own_G _ _ _ (s₁.setTop (mkF m 2 #[.val (.ref tv), .val (.int (46 : Int32)), .val (.int (0 : Int32)), .val (.int (6 : Int32)), .unset, .unset] [(.int (46 : Int32))])) _ _ _ _
  refine own_go (fun _ k => XS.istore X0.here hx rfl (hb hby d20_2) rfl (l' := #[.val (.ref tv), .val (.int (46 : Int32)), .val (.int (0 : Int32)), .val (.int (6 : Int32)), .val (.int (46 : Int32)), .unset]) rfl k) ?_
  show own_G _ _ _ (s₁.setTop (mkF m 4 #[.val (.ref tv), .val (.int (46 : Int32)), .val (.int (0 : Int32)), .val (.int (6 : Int32)), .val (.int (46 : Int32)), .unset] [])) _ _ _ _
  refine own_go (fun _ k => XS.iloadN X0.here hx rfl (hb hby d20_4) rfl k) ?_
  show own_G _ _ _ (s₁.setTop (mkF m 5 #[.val (.ref tv), .val (.int (46 : Int32)), .val (.int (0 : Int32)), .val (.int (6 : Int32)), .val (.int (46 : Int32)), .unset] [(.int (0 : Int32))])) _ _ _ _
  refine own_go (fun _ k => XS.istore X0.here hx rfl (hb hby d20_5) rfl (l' := #[.val (.ref tv), .val (.int (46 : Int32)), .val (.int (0 : Int32)), .val (.int (6 : Int32)), .val (.int (46 : Int32)), .val (.int (0 : Int32))]) rfl k) ?_
  show own_G _ _ _ (s₁.setTop (mkF m 7 #[.val (.ref tv), .val (.int (46 : Int32)), .val (.int (0 : Int32)), .val (.int (6 : Int32)), .val (.int (46 : Int32)), .val (.int (0 : Int32))] [])) _ _ _ _
  refine own_go (fun _ k => XS.iload X0.here hx rfl (hb hby d20_7) rfl k) ?_
  show own_G _ _ _ (s₁.setTop (mkF m 9 #[.val (.ref tv), .val (.int (46 : Int32)), .val (.int (0 : Int32)), .val (.int (6 : Int32)), .val (.int (46 : Int32)), .val (.int (0 : Int32))] [(.int (0 : Int32))])) _ _ _ _
  refine own_go (fun _ k => XS.iloadN X0.here hx rfl (hb hby d20_9) rfl k) ?_
  show own_G _ _ _ (s₁.setTop (mkF m 10 #[.val (.ref tv), .val (.int (46 : Int32)), .val (.int (0 : Int32)), .val (.int (6 : Int32)), .val (.int (46 : Int32)), .val (.int (0 : Int32))] [(.int (6 : Int32)), (.int (0 : Int32))])) _ _ _ _
  have hc1 : (0 : Int32) < (6 : Int32) := (by decide)
  refine own_go (fun _ k => XS.icmpNo X0.here hx rfl (hb hby d20_10) rfl (tlt hc1).2.1 k) ?_
  show own_G _ _ _ (s₁.setTop (mkF m 13 #[.val (.ref tv), .val (.int (46 : Int32)), .val (.int (0 : Int32)), .val (.int (6 : Int32)), .val (.int (46 : Int32)), .val (.int (0 : Int32))] [])) _ _ _ _
  refine own_go (fun _ k => XS.aloadN X0.here hx rfl (hb hby d20_13) rfl rfl k) ?_
  show own_G _ _ _ (s₁.setTop (mkF m 14 #[.val (.ref tv), .val (.int (46 : Int32)), .val (.int (0 : Int32)), .val (.int (6 : Int32)), .val (.int (46 : Int32)), .val (.int (0 : Int32))] [(.ref tv)])) _ _ _ _
  refine own_go (fun _ k => XS.iload X0.here hx rfl (hb hby d20_14) rfl k) ?_
  show own_G _ _ _ (s₁.setTop (mkF m 16 #[.val (.ref tv), .val (.int (46 : Int32)), .val (.int (0 : Int32)), .val (.int (6 : Int32)), .val (.int (46 : Int32)), .val (.int (0 : Int32))] [(.int (0 : Int32)), (.ref tv)])) _ _ _ _
  obtain ⟨cl2, Ar2, q2, S2, Ng2, H2, G2⟩ := id P_V_tv
  have in2 : ¬ ((0 : Int32) < 0 ∨ cl2.slots.size ≤ ((0 : Int32)).toNatClampNeg) := inb_of S2 ⟨by decide, by decide⟩
  have at2 : cl2.slots[((0 : Int32)).toNatClampNeg]? = some (.int b0) := H2.at in2 rfl
  refine own_go (fun _ k => X0.baloadBytes hx (j := (0 : Int32)) (v := (.int b0)) (by rw [e0]; exact Ar2.1) (State.isArrayOf_alike hZ.alike Ar2.2.1) Ar2.2.2 in2 at2 (g := (mkF m 16 #[.val (.ref tv), .val (.int (46 : Int32)), .val (.int (0 : Int32)), .val (.int (6 : Int32)), .val (.int (46 : Int32)), .val (.int (0 : Int32))] [(.int (0 : Int32)), (.ref tv)])) rfl rfl (hb hby d20_16) _ k) ?_
  show own_G _ _ _ (s₁.setTop (mkF m 17 #[.val (.ref tv), .val (.int (46 : Int32)), .val (.int (0 : Int32)), .val (.int (6 : Int32)), .val (.int (46 : Int32)), .val (.int (0 : Int32))] [(.int b0)])) _ _ _ _
  refine own_go (fun _ k => XS.iload X0.here hx rfl (hb hby d20_17) rfl k) ?_
  show own_G _ _ _ (s₁.setTop (mkF m 19 #[.val (.ref tv), .val (.int (46 : Int32)), .val (.int (0 : Int32)), .val (.int (6 : Int32)), .val (.int (46 : Int32)), .val (.int (0 : Int32))] [(.int (46 : Int32)), (.int b0)])) _ _ _ _
  by_cases hc3 : b0 = (46 : Int32)
  · refine own_go (fun _ k => XS.icmpNo X0.here hx rfl (hb hby d20_19) rfl (teq hc3).2 k) ?_
    show own_G _ _ _ (s₁.setTop (mkF m 22 #[.val (.ref tv), .val (.int (46 : Int32)), .val (.int (0 : Int32)), .val (.int (6 : Int32)), .val (.int (46 : Int32)), .val (.int (0 : Int32))] [])) _ _ _ _
    refine own_go (fun _ k => XS.iload X0.here hx rfl (hb hby d20_22) rfl k) ?_
    show own_G _ _ _ (s₁.setTop (mkF m 24 #[.val (.ref tv), .val (.int (46 : Int32)), .val (.int (0 : Int32)), .val (.int (6 : Int32)), .val (.int (46 : Int32)), .val (.int (0 : Int32))] [(.int (0 : Int32))])) _ _ _ _
    exact own_endI X0 hx hlk Bd.returns (hb hby d20_24) (by decide) (by decide) (Q := (Q20a Z tv kb b0 b1 b2 b3 b4 b5 h0 n0)) (by rw [e0]; exact ⟨(by unfold own_f6; rw [if_pos hc3]), N0, rfl⟩)
  · refine own_go (fun _ k => XS.icmpYes X0.here hx rfl (pc0 := 19) (pc' := 25) rfl (hb hby d20_19) rfl (feq hc3).2 (by decide) (by decide) k) ?_
    show own_G _ _ _ (s₁.setTop (mkF m 25 #[.val (.ref tv), .val (.int (46 : Int32)), .val (.int (0 : Int32)), .val (.int (6 : Int32)), .val (.int (46 : Int32)), .val (.int (0 : Int32))] [])) _ _ _ _
    refine own_go (fun _ k => XS.iinc X0.here hx rfl (hb hby d20_25) rfl (l' := #[.val (.ref tv), .val (.int (46 : Int32)), .val (.int (0 : Int32)), .val (.int (6 : Int32)), .val (.int (46 : Int32)), .val (.int (1 : Int32))]) rfl k) ?_
    show own_G _ _ _ (s₁.setTop (mkF m 28 #[.val (.ref tv), .val (.int (46 : Int32)), .val (.int (0 : Int32)), .val (.int (6 : Int32)), .val (.int (46 : Int32)), .val (.int (1 : Int32))] [])) _ _ _ _
    refine own_go (fun _ k => XS.goto X0.here hx rfl (pc0 := 28) (pc' := 7) rfl (hb hby d20_28) (by decide) (by decide) k) ?_
    show own_G _ _ _ (s₁.setTop (mkF m 7 #[.val (.ref tv), .val (.int (46 : Int32)), .val (.int (0 : Int32)), .val (.int (6 : Int32)), .val (.int (46 : Int32)), .val (.int (1 : Int32))] [])) _ _ _ _
    refine own_go (fun _ k => XS.iload X0.here hx rfl (hb hby d20_7) rfl k) ?_
    show own_G _ _ _ (s₁.setTop (mkF m 9 #[.val (.ref tv), .val (.int (46 : Int32)), .val (.int (0 : Int32)), .val (.int (6 : Int32)), .val (.int (46 : Int32)), .val (.int (1 : Int32))] [(.int (1 : Int32))])) _ _ _ _
    refine own_go (fun _ k => XS.iloadN X0.here hx rfl (hb hby d20_9) rfl k) ?_
    show own_G _ _ _ (s₁.setTop (mkF m 10 #[.val (.ref tv), .val (.int (46 : Int32)), .val (.int (0 : Int32)), .val (.int (6 : Int32)), .val (.int (46 : Int32)), .val (.int (1 : Int32))] [(.int (6 : Int32)), (.int (1 : Int32))])) _ _ _ _
    have hc4 : (1 : Int32) < (6 : Int32) := (by decide)
    refine own_go (fun _ k => XS.icmpNo X0.here hx rfl (hb hby d20_10) rfl (tlt hc4).2.1 k) ?_
    show own_G _ _ _ (s₁.setTop (mkF m 13 #[.val (.ref tv), .val (.int (46 : Int32)), .val (.int (0 : Int32)), .val (.int (6 : Int32)), .val (.int (46 : Int32)), .val (.int (1 : Int32))] [])) _ _ _ _
    refine own_go (fun _ k => XS.aloadN X0.here hx rfl (hb hby d20_13) rfl rfl k) ?_
    show own_G _ _ _ (s₁.setTop (mkF m 14 #[.val (.ref tv), .val (.int (46 : Int32)), .val (.int (0 : Int32)), .val (.int (6 : Int32)), .val (.int (46 : Int32)), .val (.int (1 : Int32))] [(.ref tv)])) _ _ _ _
    refine own_go (fun _ k => XS.iload X0.here hx rfl (hb hby d20_14) rfl k) ?_
    show own_G _ _ _ (s₁.setTop (mkF m 16 #[.val (.ref tv), .val (.int (46 : Int32)), .val (.int (0 : Int32)), .val (.int (6 : Int32)), .val (.int (46 : Int32)), .val (.int (1 : Int32))] [(.int (1 : Int32)), (.ref tv)])) _ _ _ _
    obtain ⟨cl5, Ar5, q5, S5, Ng5, H5, G5⟩ := id P_V_tv
    have in5 : ¬ ((1 : Int32) < 0 ∨ cl5.slots.size ≤ ((1 : Int32)).toNatClampNeg) := inb_of S5 ⟨by decide, by decide⟩
    have at5 : cl5.slots[((1 : Int32)).toNatClampNeg]? = some (.int b1) := H5.at in5 rfl
    refine own_go (fun _ k => X0.baloadBytes hx (j := (1 : Int32)) (v := (.int b1)) (by rw [e0]; exact Ar5.1) (State.isArrayOf_alike hZ.alike Ar5.2.1) Ar5.2.2 in5 at5 (g := (mkF m 16 #[.val (.ref tv), .val (.int (46 : Int32)), .val (.int (0 : Int32)), .val (.int (6 : Int32)), .val (.int (46 : Int32)), .val (.int (1 : Int32))] [(.int (1 : Int32)), (.ref tv)])) rfl rfl (hb hby d20_16) _ k) ?_
    show own_G _ _ _ (s₁.setTop (mkF m 17 #[.val (.ref tv), .val (.int (46 : Int32)), .val (.int (0 : Int32)), .val (.int (6 : Int32)), .val (.int (46 : Int32)), .val (.int (1 : Int32))] [(.int b1)])) _ _ _ _
    refine own_go (fun _ k => XS.iload X0.here hx rfl (hb hby d20_17) rfl k) ?_
    show own_G _ _ _ (s₁.setTop (mkF m 19 #[.val (.ref tv), .val (.int (46 : Int32)), .val (.int (0 : Int32)), .val (.int (6 : Int32)), .val (.int (46 : Int32)), .val (.int (1 : Int32))] [(.int (46 : Int32)), (.int b1)])) _ _ _ _
    by_cases hc6 : b1 = (46 : Int32)
    · refine own_go (fun _ k => XS.icmpNo X0.here hx rfl (hb hby d20_19) rfl (teq hc6).2 k) ?_
      show own_G _ _ _ (s₁.setTop (mkF m 22 #[.val (.ref tv), .val (.int (46 : Int32)), .val (.int (0 : Int32)), .val (.int (6 : Int32)), .val (.int (46 : Int32)), .val (.int (1 : Int32))] [])) _ _ _ _
      refine own_go (fun _ k => XS.iload X0.here hx rfl (hb hby d20_22) rfl k) ?_
      show own_G _ _ _ (s₁.setTop (mkF m 24 #[.val (.ref tv), .val (.int (46 : Int32)), .val (.int (0 : Int32)), .val (.int (6 : Int32)), .val (.int (46 : Int32)), .val (.int (1 : Int32))] [(.int (1 : Int32))])) _ _ _ _
      exact own_endI X0 hx hlk Bd.returns (hb hby d20_24) (by decide) (by decide) (Q := (Q20a Z tv kb b0 b1 b2 b3 b4 b5 h0 n0)) (by rw [e0]; exact ⟨(by unfold own_f6; rw [if_neg hc3, if_pos hc6]), N0, rfl⟩)
    · refine own_go (fun _ k => XS.icmpYes X0.here hx rfl (pc0 := 19) (pc' := 25) rfl (hb hby d20_19) rfl (feq hc6).2 (by decide) (by decide) k) ?_
      show own_G _ _ _ (s₁.setTop (mkF m 25 #[.val (.ref tv), .val (.int (46 : Int32)), .val (.int (0 : Int32)), .val (.int (6 : Int32)), .val (.int (46 : Int32)), .val (.int (1 : Int32))] [])) _ _ _ _
      refine own_go (fun _ k => XS.iinc X0.here hx rfl (hb hby d20_25) rfl (l' := #[.val (.ref tv), .val (.int (46 : Int32)), .val (.int (0 : Int32)), .val (.int (6 : Int32)), .val (.int (46 : Int32)), .val (.int (2 : Int32))]) rfl k) ?_
      show own_G _ _ _ (s₁.setTop (mkF m 28 #[.val (.ref tv), .val (.int (46 : Int32)), .val (.int (0 : Int32)), .val (.int (6 : Int32)), .val (.int (46 : Int32)), .val (.int (2 : Int32))] [])) _ _ _ _
      refine own_go (fun _ k => XS.goto X0.here hx rfl (pc0 := 28) (pc' := 7) rfl (hb hby d20_28) (by decide) (by decide) k) ?_
      show own_G _ _ _ (s₁.setTop (mkF m 7 #[.val (.ref tv), .val (.int (46 : Int32)), .val (.int (0 : Int32)), .val (.int (6 : Int32)), .val (.int (46 : Int32)), .val (.int (2 : Int32))] [])) _ _ _ _
      refine own_go (fun _ k => XS.iload X0.here hx rfl (hb hby d20_7) rfl k) ?_
      show own_G _ _ _ (s₁.setTop (mkF m 9 #[.val (.ref tv), .val (.int (46 : Int32)), .val (.int (0 : Int32)), .val (.int (6 : Int32)), .val (.int (46 : Int32)), .val (.int (2 : Int32))] [(.int (2 : Int32))])) _ _ _ _
      refine own_go (fun _ k => XS.iloadN X0.here hx rfl (hb hby d20_9) rfl k) ?_
      show own_G _ _ _ (s₁.setTop (mkF m 10 #[.val (.ref tv), .val (.int (46 : Int32)), .val (.int (0 : Int32)), .val (.int (6 : Int32)), .val (.int (46 : Int32)), .val (.int (2 : Int32))] [(.int (6 : Int32)), (.int (2 : Int32))])) _ _ _ _
      have hc7 : (2 : Int32) < (6 : Int32) := (by decide)
      refine own_go (fun _ k => XS.icmpNo X0.here hx rfl (hb hby d20_10) rfl (tlt hc7).2.1 k) ?_
      show own_G _ _ _ (s₁.setTop (mkF m 13 #[.val (.ref tv), .val (.int (46 : Int32)), .val (.int (0 : Int32)), .val (.int (6 : Int32)), .val (.int (46 : Int32)), .val (.int (2 : Int32))] [])) _ _ _ _
      refine own_go (fun _ k => XS.aloadN X0.here hx rfl (hb hby d20_13) rfl rfl k) ?_
      show own_G _ _ _ (s₁.setTop (mkF m 14 #[.val (.ref tv), .val (.int (46 : Int32)), .val (.int (0 : Int32)), .val (.int (6 : Int32)), .val (.int (46 : Int32)), .val (.int (2 : Int32))] [(.ref tv)])) _ _ _ _
      refine own_go (fun _ k => XS.iload X0.here hx rfl (hb hby d20_14) rfl k) ?_
      show own_G _ _ _ (s₁.setTop (mkF m 16 #[.val (.ref tv), .val (.int (46 : Int32)), .val (.int (0 : Int32)), .val (.int (6 : Int32)), .val (.int (46 : Int32)), .val (.int (2 : Int32))] [(.int (2 : Int32)), (.ref tv)])) _ _ _ _
      obtain ⟨cl8, Ar8, q8, S8, Ng8, H8, G8⟩ := id P_V_tv
      have in8 : ¬ ((2 : Int32) < 0 ∨ cl8.slots.size ≤ ((2 : Int32)).toNatClampNeg) := inb_of S8 ⟨by decide, by decide⟩
      have at8 : cl8.slots[((2 : Int32)).toNatClampNeg]? = some (.int b2) := H8.at in8 rfl
      refine own_go (fun _ k => X0.baloadBytes hx (j := (2 : Int32)) (v := (.int b2)) (by rw [e0]; exact Ar8.1) (State.isArrayOf_alike hZ.alike Ar8.2.1) Ar8.2.2 in8 at8 (g := (mkF m 16 #[.val (.ref tv), .val (.int (46 : Int32)), .val (.int (0 : Int32)), .val (.int (6 : Int32)), .val (.int (46 : Int32)), .val (.int (2 : Int32))] [(.int (2 : Int32)), (.ref tv)])) rfl rfl (hb hby d20_16) _ k) ?_
      show own_G _ _ _ (s₁.setTop (mkF m 17 #[.val (.ref tv), .val (.int (46 : Int32)), .val (.int (0 : Int32)), .val (.int (6 : Int32)), .val (.int (46 : Int32)), .val (.int (2 : Int32))] [(.int b2)])) _ _ _ _
      refine own_go (fun _ k => XS.iload X0.here hx rfl (hb hby d20_17) rfl k) ?_
      show own_G _ _ _ (s₁.setTop (mkF m 19 #[.val (.ref tv), .val (.int (46 : Int32)), .val (.int (0 : Int32)), .val (.int (6 : Int32)), .val (.int (46 : Int32)), .val (.int (2 : Int32))] [(.int (46 : Int32)), (.int b2)])) _ _ _ _
      by_cases hc9 : b2 = (46 : Int32)
      · refine own_go (fun _ k => XS.icmpNo X0.here hx rfl (hb hby d20_19) rfl (teq hc9).2 k) ?_
        show own_G _ _ _ (s₁.setTop (mkF m 22 #[.val (.ref tv), .val (.int (46 : Int32)), .val (.int (0 : Int32)), .val (.int (6 : Int32)), .val (.int (46 : Int32)), .val (.int (2 : Int32))] [])) _ _ _ _
        refine own_go (fun _ k => XS.iload X0.here hx rfl (hb hby d20_22) rfl k) ?_
        show own_G _ _ _ (s₁.setTop (mkF m 24 #[.val (.ref tv), .val (.int (46 : Int32)), .val (.int (0 : Int32)), .val (.int (6 : Int32)), .val (.int (46 : Int32)), .val (.int (2 : Int32))] [(.int (2 : Int32))])) _ _ _ _
        exact own_endI X0 hx hlk Bd.returns (hb hby d20_24) (by decide) (by decide) (Q := (Q20a Z tv kb b0 b1 b2 b3 b4 b5 h0 n0)) (by rw [e0]; exact ⟨(by unfold own_f6; rw [if_neg hc3, if_neg hc6, if_pos hc9]), N0, rfl⟩)
      · refine own_go (fun _ k => XS.icmpYes X0.here hx rfl (pc0 := 19) (pc' := 25) rfl (hb hby d20_19) rfl (feq hc9).2 (by decide) (by decide) k) ?_
        show own_G _ _ _ (s₁.setTop (mkF m 25 #[.val (.ref tv), .val (.int (46 : Int32)), .val (.int (0 : Int32)), .val (.int (6 : Int32)), .val (.int (46 : Int32)), .val (.int (2 : Int32))] [])) _ _ _ _
        refine own_go (fun _ k => XS.iinc X0.here hx rfl (hb hby d20_25) rfl (l' := #[.val (.ref tv), .val (.int (46 : Int32)), .val (.int (0 : Int32)), .val (.int (6 : Int32)), .val (.int (46 : Int32)), .val (.int (3 : Int32))]) rfl k) ?_
        show own_G _ _ _ (s₁.setTop (mkF m 28 #[.val (.ref tv), .val (.int (46 : Int32)), .val (.int (0 : Int32)), .val (.int (6 : Int32)), .val (.int (46 : Int32)), .val (.int (3 : Int32))] [])) _ _ _ _
        refine own_go (fun _ k => XS.goto X0.here hx rfl (pc0 := 28) (pc' := 7) rfl (hb hby d20_28) (by decide) (by decide) k) ?_
        show own_G _ _ _ (s₁.setTop (mkF m 7 #[.val (.ref tv), .val (.int (46 : Int32)), .val (.int (0 : Int32)), .val (.int (6 : Int32)), .val (.int (46 : Int32)), .val (.int (3 : Int32))] [])) _ _ _ _
        refine own_go (fun _ k => XS.iload X0.here hx rfl (hb hby d20_7) rfl k) ?_
        show own_G _ _ _ (s₁.setTop (mkF m 9 #[.val (.ref tv), .val (.int (46 : Int32)), .val (.int (0 : Int32)), .val (.int (6 : Int32)), .val (.int (46 : Int32)), .val (.int (3 : Int32))] [(.int (3 : Int32))])) _ _ _ _
        refine own_go (fun _ k => XS.iloadN X0.here hx rfl (hb hby d20_9) rfl k) ?_
        show own_G _ _ _ (s₁.setTop (mkF m 10 #[.val (.ref tv), .val (.int (46 : Int32)), .val (.int (0 : Int32)), .val (.int (6 : Int32)), .val (.int (46 : Int32)), .val (.int (3 : Int32))] [(.int (6 : Int32)), (.int (3 : Int32))])) _ _ _ _
        have hc10 : (3 : Int32) < (6 : Int32) := (by decide)
        refine own_go (fun _ k => XS.icmpNo X0.here hx rfl (hb hby d20_10) rfl (tlt hc10).2.1 k) ?_
        show own_G _ _ _ (s₁.setTop (mkF m 13 #[.val (.ref tv), .val (.int (46 : Int32)), .val (.int (0 : Int32)), .val (.int (6 : Int32)), .val (.int (46 : Int32)), .val (.int (3 : Int32))] [])) _ _ _ _
        refine own_go (fun _ k => XS.aloadN X0.here hx rfl (hb hby d20_13) rfl rfl k) ?_
        show own_G _ _ _ (s₁.setTop (mkF m 14 #[.val (.ref tv), .val (.int (46 : Int32)), .val (.int (0 : Int32)), .val (.int (6 : Int32)), .val (.int (46 : Int32)), .val (.int (3 : Int32))] [(.ref tv)])) _ _ _ _
        refine own_go (fun _ k => XS.iload X0.here hx rfl (hb hby d20_14) rfl k) ?_
        show own_G _ _ _ (s₁.setTop (mkF m 16 #[.val (.ref tv), .val (.int (46 : Int32)), .val (.int (0 : Int32)), .val (.int (6 : Int32)), .val (.int (46 : Int32)), .val (.int (3 : Int32))] [(.int (3 : Int32)), (.ref tv)])) _ _ _ _
        obtain ⟨cl11, Ar11, q11, S11, Ng11, H11, G11⟩ := id P_V_tv
        have in11 : ¬ ((3 : Int32) < 0 ∨ cl11.slots.size ≤ ((3 : Int32)).toNatClampNeg) := inb_of S11 ⟨by decide, by decide⟩
        have at11 : cl11.slots[((3 : Int32)).toNatClampNeg]? = some (.int b3) := H11.at in11 rfl
        refine own_go (fun _ k => X0.baloadBytes hx (j := (3 : Int32)) (v := (.int b3)) (by rw [e0]; exact Ar11.1) (State.isArrayOf_alike hZ.alike Ar11.2.1) Ar11.2.2 in11 at11 (g := (mkF m 16 #[.val (.ref tv), .val (.int (46 : Int32)), .val (.int (0 : Int32)), .val (.int (6 : Int32)), .val (.int (46 : Int32)), .val (.int (3 : Int32))] [(.int (3 : Int32)), (.ref tv)])) rfl rfl (hb hby d20_16) _ k) ?_
        show own_G _ _ _ (s₁.setTop (mkF m 17 #[.val (.ref tv), .val (.int (46 : Int32)), .val (.int (0 : Int32)), .val (.int (6 : Int32)), .val (.int (46 : Int32)), .val (.int (3 : Int32))] [(.int b3)])) _ _ _ _
        refine own_go (fun _ k => XS.iload X0.here hx rfl (hb hby d20_17) rfl k) ?_
        show own_G _ _ _ (s₁.setTop (mkF m 19 #[.val (.ref tv), .val (.int (46 : Int32)), .val (.int (0 : Int32)), .val (.int (6 : Int32)), .val (.int (46 : Int32)), .val (.int (3 : Int32))] [(.int (46 : Int32)), (.int b3)])) _ _ _ _
        by_cases hc12 : b3 = (46 : Int32)
        · refine own_go (fun _ k => XS.icmpNo X0.here hx rfl (hb hby d20_19) rfl (teq hc12).2 k) ?_
          show own_G _ _ _ (s₁.setTop (mkF m 22 #[.val (.ref tv), .val (.int (46 : Int32)), .val (.int (0 : Int32)), .val (.int (6 : Int32)), .val (.int (46 : Int32)), .val (.int (3 : Int32))] [])) _ _ _ _
          refine own_go (fun _ k => XS.iload X0.here hx rfl (hb hby d20_22) rfl k) ?_
          show own_G _ _ _ (s₁.setTop (mkF m 24 #[.val (.ref tv), .val (.int (46 : Int32)), .val (.int (0 : Int32)), .val (.int (6 : Int32)), .val (.int (46 : Int32)), .val (.int (3 : Int32))] [(.int (3 : Int32))])) _ _ _ _
          exact own_endI X0 hx hlk Bd.returns (hb hby d20_24) (by decide) (by decide) (Q := (Q20a Z tv kb b0 b1 b2 b3 b4 b5 h0 n0)) (by rw [e0]; exact ⟨(by unfold own_f6; rw [if_neg hc3, if_neg hc6, if_neg hc9, if_pos hc12]), N0, rfl⟩)
        · refine own_go (fun _ k => XS.icmpYes X0.here hx rfl (pc0 := 19) (pc' := 25) rfl (hb hby d20_19) rfl (feq hc12).2 (by decide) (by decide) k) ?_
          show own_G _ _ _ (s₁.setTop (mkF m 25 #[.val (.ref tv), .val (.int (46 : Int32)), .val (.int (0 : Int32)), .val (.int (6 : Int32)), .val (.int (46 : Int32)), .val (.int (3 : Int32))] [])) _ _ _ _
          refine own_go (fun _ k => XS.iinc X0.here hx rfl (hb hby d20_25) rfl (l' := #[.val (.ref tv), .val (.int (46 : Int32)), .val (.int (0 : Int32)), .val (.int (6 : Int32)), .val (.int (46 : Int32)), .val (.int (4 : Int32))]) rfl k) ?_
          show own_G _ _ _ (s₁.setTop (mkF m 28 #[.val (.ref tv), .val (.int (46 : Int32)), .val (.int (0 : Int32)), .val (.int (6 : Int32)), .val (.int (46 : Int32)), .val (.int (4 : Int32))] [])) _ _ _ _
          refine own_go (fun _ k => XS.goto X0.here hx rfl (pc0 := 28) (pc' := 7) rfl (hb hby d20_28) (by decide) (by decide) k) ?_
          show own_G _ _ _ (s₁.setTop (mkF m 7 #[.val (.ref tv), .val (.int (46 : Int32)), .val (.int (0 : Int32)), .val (.int (6 : Int32)), .val (.int (46 : Int32)), .val (.int (4 : Int32))] [])) _ _ _ _
          refine own_go (fun _ k => XS.iload X0.here hx rfl (hb hby d20_7) rfl k) ?_
          show own_G _ _ _ (s₁.setTop (mkF m 9 #[.val (.ref tv), .val (.int (46 : Int32)), .val (.int (0 : Int32)), .val (.int (6 : Int32)), .val (.int (46 : Int32)), .val (.int (4 : Int32))] [(.int (4 : Int32))])) _ _ _ _
          refine own_go (fun _ k => XS.iloadN X0.here hx rfl (hb hby d20_9) rfl k) ?_
          show own_G _ _ _ (s₁.setTop (mkF m 10 #[.val (.ref tv), .val (.int (46 : Int32)), .val (.int (0 : Int32)), .val (.int (6 : Int32)), .val (.int (46 : Int32)), .val (.int (4 : Int32))] [(.int (6 : Int32)), (.int (4 : Int32))])) _ _ _ _
          have hc13 : (4 : Int32) < (6 : Int32) := (by decide)
          refine own_go (fun _ k => XS.icmpNo X0.here hx rfl (hb hby d20_10) rfl (tlt hc13).2.1 k) ?_
          show own_G _ _ _ (s₁.setTop (mkF m 13 #[.val (.ref tv), .val (.int (46 : Int32)), .val (.int (0 : Int32)), .val (.int (6 : Int32)), .val (.int (46 : Int32)), .val (.int (4 : Int32))] [])) _ _ _ _
          refine own_go (fun _ k => XS.aloadN X0.here hx rfl (hb hby d20_13) rfl rfl k) ?_
          show own_G _ _ _ (s₁.setTop (mkF m 14 #[.val (.ref tv), .val (.int (46 : Int32)), .val (.int (0 : Int32)), .val (.int (6 : Int32)), .val (.int (46 : Int32)), .val (.int (4 : Int32))] [(.ref tv)])) _ _ _ _
          refine own_go (fun _ k => XS.iload X0.here hx rfl (hb hby d20_14) rfl k) ?_
          show own_G _ _ _ (s₁.setTop (mkF m 16 #[.val (.ref tv), .val (.int (46 : Int32)), .val (.int (0 : Int32)), .val (.int (6 : Int32)), .val (.int (46 : Int32)), .val (.int (4 : Int32))] [(.int (4 : Int32)), (.ref tv)])) _ _ _ _
          obtain ⟨cl14, Ar14, q14, S14, Ng14, H14, G14⟩ := id P_V_tv
          have in14 : ¬ ((4 : Int32) < 0 ∨ cl14.slots.size ≤ ((4 : Int32)).toNatClampNeg) := inb_of S14 ⟨by decide, by decide⟩
          have at14 : cl14.slots[((4 : Int32)).toNatClampNeg]? = some (.int b4) := H14.at in14 rfl
          refine own_go (fun _ k => X0.baloadBytes hx (j := (4 : Int32)) (v := (.int b4)) (by rw [e0]; exact Ar14.1) (State.isArrayOf_alike hZ.alike Ar14.2.1) Ar14.2.2 in14 at14 (g := (mkF m 16 #[.val (.ref tv), .val (.int (46 : Int32)), .val (.int (0 : Int32)), .val (.int (6 : Int32)), .val (.int (46 : Int32)), .val (.int (4 : Int32))] [(.int (4 : Int32)), (.ref tv)])) rfl rfl (hb hby d20_16) _ k) ?_
          show own_G _ _ _ (s₁.setTop (mkF m 17 #[.val (.ref tv), .val (.int (46 : Int32)), .val (.int (0 : Int32)), .val (.int (6 : Int32)), .val (.int (46 : Int32)), .val (.int (4 : Int32))] [(.int b4)])) _ _ _ _
          refine own_go (fun _ k => XS.iload X0.here hx rfl (hb hby d20_17) rfl k) ?_
          show own_G _ _ _ (s₁.setTop (mkF m 19 #[.val (.ref tv), .val (.int (46 : Int32)), .val (.int (0 : Int32)), .val (.int (6 : Int32)), .val (.int (46 : Int32)), .val (.int (4 : Int32))] [(.int (46 : Int32)), (.int b4)])) _ _ _ _
          by_cases hc15 : b4 = (46 : Int32)
          · refine own_go (fun _ k => XS.icmpNo X0.here hx rfl (hb hby d20_19) rfl (teq hc15).2 k) ?_
            show own_G _ _ _ (s₁.setTop (mkF m 22 #[.val (.ref tv), .val (.int (46 : Int32)), .val (.int (0 : Int32)), .val (.int (6 : Int32)), .val (.int (46 : Int32)), .val (.int (4 : Int32))] [])) _ _ _ _
            refine own_go (fun _ k => XS.iload X0.here hx rfl (hb hby d20_22) rfl k) ?_
            show own_G _ _ _ (s₁.setTop (mkF m 24 #[.val (.ref tv), .val (.int (46 : Int32)), .val (.int (0 : Int32)), .val (.int (6 : Int32)), .val (.int (46 : Int32)), .val (.int (4 : Int32))] [(.int (4 : Int32))])) _ _ _ _
            exact own_endI X0 hx hlk Bd.returns (hb hby d20_24) (by decide) (by decide) (Q := (Q20a Z tv kb b0 b1 b2 b3 b4 b5 h0 n0)) (by rw [e0]; exact ⟨(by unfold own_f6; rw [if_neg hc3, if_neg hc6, if_neg hc9, if_neg hc12, if_pos hc15]), N0, rfl⟩)
          · refine own_go (fun _ k => XS.icmpYes X0.here hx rfl (pc0 := 19) (pc' := 25) rfl (hb hby d20_19) rfl (feq hc15).2 (by decide) (by decide) k) ?_
            show own_G _ _ _ (s₁.setTop (mkF m 25 #[.val (.ref tv), .val (.int (46 : Int32)), .val (.int (0 : Int32)), .val (.int (6 : Int32)), .val (.int (46 : Int32)), .val (.int (4 : Int32))] [])) _ _ _ _
            refine own_go (fun _ k => XS.iinc X0.here hx rfl (hb hby d20_25) rfl (l' := #[.val (.ref tv), .val (.int (46 : Int32)), .val (.int (0 : Int32)), .val (.int (6 : Int32)), .val (.int (46 : Int32)), .val (.int (5 : Int32))]) rfl k) ?_
            show own_G _ _ _ (s₁.setTop (mkF m 28 #[.val (.ref tv), .val (.int (46 : Int32)), .val (.int (0 : Int32)), .val (.int (6 : Int32)), .val (.int (46 : Int32)), .val (.int (5 : Int32))] [])) _ _ _ _
            refine own_go (fun _ k => XS.goto X0.here hx rfl (pc0 := 28) (pc' := 7) rfl (hb hby d20_28) (by decide) (by decide) k) ?_
            show own_G _ _ _ (s₁.setTop (mkF m 7 #[.val (.ref tv), .val (.int (46 : Int32)), .val (.int (0 : Int32)), .val (.int (6 : Int32)), .val (.int (46 : Int32)), .val (.int (5 : Int32))] [])) _ _ _ _
            refine own_go (fun _ k => XS.iload X0.here hx rfl (hb hby d20_7) rfl k) ?_
            show own_G _ _ _ (s₁.setTop (mkF m 9 #[.val (.ref tv), .val (.int (46 : Int32)), .val (.int (0 : Int32)), .val (.int (6 : Int32)), .val (.int (46 : Int32)), .val (.int (5 : Int32))] [(.int (5 : Int32))])) _ _ _ _
            refine own_go (fun _ k => XS.iloadN X0.here hx rfl (hb hby d20_9) rfl k) ?_
            show own_G _ _ _ (s₁.setTop (mkF m 10 #[.val (.ref tv), .val (.int (46 : Int32)), .val (.int (0 : Int32)), .val (.int (6 : Int32)), .val (.int (46 : Int32)), .val (.int (5 : Int32))] [(.int (6 : Int32)), (.int (5 : Int32))])) _ _ _ _
            have hc16 : (5 : Int32) < (6 : Int32) := (by decide)
            refine own_go (fun _ k => XS.icmpNo X0.here hx rfl (hb hby d20_10) rfl (tlt hc16).2.1 k) ?_
            show own_G _ _ _ (s₁.setTop (mkF m 13 #[.val (.ref tv), .val (.int (46 : Int32)), .val (.int (0 : Int32)), .val (.int (6 : Int32)), .val (.int (46 : Int32)), .val (.int (5 : Int32))] [])) _ _ _ _
            refine own_go (fun _ k => XS.aloadN X0.here hx rfl (hb hby d20_13) rfl rfl k) ?_
            show own_G _ _ _ (s₁.setTop (mkF m 14 #[.val (.ref tv), .val (.int (46 : Int32)), .val (.int (0 : Int32)), .val (.int (6 : Int32)), .val (.int (46 : Int32)), .val (.int (5 : Int32))] [(.ref tv)])) _ _ _ _
            refine own_go (fun _ k => XS.iload X0.here hx rfl (hb hby d20_14) rfl k) ?_
            show own_G _ _ _ (s₁.setTop (mkF m 16 #[.val (.ref tv), .val (.int (46 : Int32)), .val (.int (0 : Int32)), .val (.int (6 : Int32)), .val (.int (46 : Int32)), .val (.int (5 : Int32))] [(.int (5 : Int32)), (.ref tv)])) _ _ _ _
            obtain ⟨cl17, Ar17, q17, S17, Ng17, H17, G17⟩ := id P_V_tv
            have in17 : ¬ ((5 : Int32) < 0 ∨ cl17.slots.size ≤ ((5 : Int32)).toNatClampNeg) := inb_of S17 ⟨by decide, by decide⟩
            have at17 : cl17.slots[((5 : Int32)).toNatClampNeg]? = some (.int b5) := H17.at in17 rfl
            refine own_go (fun _ k => X0.baloadBytes hx (j := (5 : Int32)) (v := (.int b5)) (by rw [e0]; exact Ar17.1) (State.isArrayOf_alike hZ.alike Ar17.2.1) Ar17.2.2 in17 at17 (g := (mkF m 16 #[.val (.ref tv), .val (.int (46 : Int32)), .val (.int (0 : Int32)), .val (.int (6 : Int32)), .val (.int (46 : Int32)), .val (.int (5 : Int32))] [(.int (5 : Int32)), (.ref tv)])) rfl rfl (hb hby d20_16) _ k) ?_
            show own_G _ _ _ (s₁.setTop (mkF m 17 #[.val (.ref tv), .val (.int (46 : Int32)), .val (.int (0 : Int32)), .val (.int (6 : Int32)), .val (.int (46 : Int32)), .val (.int (5 : Int32))] [(.int b5)])) _ _ _ _
            refine own_go (fun _ k => XS.iload X0.here hx rfl (hb hby d20_17) rfl k) ?_
            show own_G _ _ _ (s₁.setTop (mkF m 19 #[.val (.ref tv), .val (.int (46 : Int32)), .val (.int (0 : Int32)), .val (.int (6 : Int32)), .val (.int (46 : Int32)), .val (.int (5 : Int32))] [(.int (46 : Int32)), (.int b5)])) _ _ _ _
            by_cases hc18 : b5 = (46 : Int32)
            · refine own_go (fun _ k => XS.icmpNo X0.here hx rfl (hb hby d20_19) rfl (teq hc18).2 k) ?_
              show own_G _ _ _ (s₁.setTop (mkF m 22 #[.val (.ref tv), .val (.int (46 : Int32)), .val (.int (0 : Int32)), .val (.int (6 : Int32)), .val (.int (46 : Int32)), .val (.int (5 : Int32))] [])) _ _ _ _
              refine own_go (fun _ k => XS.iload X0.here hx rfl (hb hby d20_22) rfl k) ?_
              show own_G _ _ _ (s₁.setTop (mkF m 24 #[.val (.ref tv), .val (.int (46 : Int32)), .val (.int (0 : Int32)), .val (.int (6 : Int32)), .val (.int (46 : Int32)), .val (.int (5 : Int32))] [(.int (5 : Int32))])) _ _ _ _
              exact own_endI X0 hx hlk Bd.returns (hb hby d20_24) (by decide) (by decide) (Q := (Q20a Z tv kb b0 b1 b2 b3 b4 b5 h0 n0)) (by rw [e0]; exact ⟨(by unfold own_f6; rw [if_neg hc3, if_neg hc6, if_neg hc9, if_neg hc12, if_neg hc15, if_pos hc18]), N0, rfl⟩)
            · refine own_go (fun _ k => XS.icmpYes X0.here hx rfl (pc0 := 19) (pc' := 25) rfl (hb hby d20_19) rfl (feq hc18).2 (by decide) (by decide) k) ?_
              show own_G _ _ _ (s₁.setTop (mkF m 25 #[.val (.ref tv), .val (.int (46 : Int32)), .val (.int (0 : Int32)), .val (.int (6 : Int32)), .val (.int (46 : Int32)), .val (.int (5 : Int32))] [])) _ _ _ _
              refine own_go (fun _ k => XS.iinc X0.here hx rfl (hb hby d20_25) rfl (l' := #[.val (.ref tv), .val (.int (46 : Int32)), .val (.int (0 : Int32)), .val (.int (6 : Int32)), .val (.int (46 : Int32)), .val (.int (6 : Int32))]) rfl k) ?_
              show own_G _ _ _ (s₁.setTop (mkF m 28 #[.val (.ref tv), .val (.int (46 : Int32)), .val (.int (0 : Int32)), .val (.int (6 : Int32)), .val (.int (46 : Int32)), .val (.int (6 : Int32))] [])) _ _ _ _
              refine own_go (fun _ k => XS.goto X0.here hx rfl (pc0 := 28) (pc' := 7) rfl (hb hby d20_28) (by decide) (by decide) k) ?_
              show own_G _ _ _ (s₁.setTop (mkF m 7 #[.val (.ref tv), .val (.int (46 : Int32)), .val (.int (0 : Int32)), .val (.int (6 : Int32)), .val (.int (46 : Int32)), .val (.int (6 : Int32))] [])) _ _ _ _
              refine own_go (fun _ k => XS.iload X0.here hx rfl (hb hby d20_7) rfl k) ?_
              show own_G _ _ _ (s₁.setTop (mkF m 9 #[.val (.ref tv), .val (.int (46 : Int32)), .val (.int (0 : Int32)), .val (.int (6 : Int32)), .val (.int (46 : Int32)), .val (.int (6 : Int32))] [(.int (6 : Int32))])) _ _ _ _
              refine own_go (fun _ k => XS.iloadN X0.here hx rfl (hb hby d20_9) rfl k) ?_
              show own_G _ _ _ (s₁.setTop (mkF m 10 #[.val (.ref tv), .val (.int (46 : Int32)), .val (.int (0 : Int32)), .val (.int (6 : Int32)), .val (.int (46 : Int32)), .val (.int (6 : Int32))] [(.int (6 : Int32)), (.int (6 : Int32))])) _ _ _ _
              have hc19 : ¬ ((6 : Int32) < (6 : Int32)) := (by decide)
              refine own_go (fun _ k => XS.icmpYes X0.here hx rfl (pc0 := 10) (pc' := 31) rfl (hb hby d20_10) rfl (flt hc19).2.1 (by decide) (by decide) k) ?_
              show own_G _ _ _ (s₁.setTop (mkF m 31 #[.val (.ref tv), .val (.int (46 : Int32)), .val (.int (0 : Int32)), .val (.int (6 : Int32)), .val (.int (46 : Int32)), .val (.int (6 : Int32))] [])) _ _ _ _
              refine own_go (fun _ k => XS.iconst X0.here hx rfl (hb hby d20_31) k) ?_
              show own_G _ _ _ (s₁.setTop (mkF m 32 #[.val (.ref tv), .val (.int (46 : Int32)), .val (.int (0 : Int32)), .val (.int (6 : Int32)), .val (.int (46 : Int32)), .val (.int (6 : Int32))] [(.int (-1 : Int32))])) _ _ _ _
              exact own_endI X0 hx hlk Bd.returns (hb hby d20_32) (by decide) (by decide) (Q := (Q20a Z tv kb b0 b1 b2 b3 b4 b5 h0 n0)) (by rw [e0]; exact ⟨(by unfold own_f6; rw [if_neg hc3, if_neg hc6, if_neg hc9, if_neg hc12, if_neg hc15, if_neg hc18]), N0, rfl⟩)
theorem d16_0 : decode jdk_43_method_22_code 0 = .ok (.iload_n 1, 1) := by decide +kernel
theorem d16_1 : decode jdk_43_method_22_code 1 = .ok (.invokestatic 88, 3) := by decide +kernel
theorem d16_4 : decode jdk_43_method_22_code 4 = .ok (.ifCond .ne 5, 3) := by decide +kernel
theorem d16_7 : decode jdk_43_method_22_code 7 = .ok (.iconst (-1), 1) := by decide +kernel
theorem d16_8 : decode jdk_43_method_22_code 8 = .ok (.ireturn, 1) := by decide +kernel
theorem d16_9 : decode jdk_43_method_22_code 9 = .ok (.iload_n 2, 1) := by decide +kernel
theorem d16_10 : decode jdk_43_method_22_code 10 = .ok (.iconst 0, 1) := by decide +kernel
theorem d16_11 : decode jdk_43_method_22_code 11 = .ok (.invokestatic 92, 3) := by decide +kernel
theorem d16_14 : decode jdk_43_method_22_code 14 = .ok (.istore_n 2, 1) := by decide +kernel
theorem d16_15 : decode jdk_43_method_22_code 15 = .ok (.iload_n 3, 1) := by decide +kernel
theorem d16_16 : decode jdk_43_method_22_code 16 = .ok (.aload_n 0, 1) := by decide +kernel
theorem d16_17 : decode jdk_43_method_22_code 17 = .ok (.arraylength, 1) := by decide +kernel
theorem d16_18 : decode jdk_43_method_22_code 18 = .ok (.invokestatic 38, 3) := by decide +kernel
theorem d16_21 : decode jdk_43_method_22_code 21 = .ok (.istore_n 3, 1) := by decide +kernel
theorem d16_22 : decode jdk_43_method_22_code 22 = .ok (.iload_n 2, 1) := by decide +kernel
theorem d16_23 : decode jdk_43_method_22_code 23 = .ok (.iload_n 3, 1) := by decide +kernel
theorem d16_24 : decode jdk_43_method_22_code 24 = .ok (.if_icmp .lt 5, 3) := by decide +kernel
theorem d16_27 : decode jdk_43_method_22_code 27 = .ok (.iconst (-1), 1) := by decide +kernel
theorem d16_28 : decode jdk_43_method_22_code 28 = .ok (.ireturn, 1) := by decide +kernel
theorem d16_29 : decode jdk_43_method_22_code 29 = .ok (.aload_n 0, 1) := by decide +kernel
theorem d16_30 : decode jdk_43_method_22_code 30 = .ok (.iload_n 1, 1) := by decide +kernel
theorem d16_31 : decode jdk_43_method_22_code 31 = .ok (.iload_n 2, 1) := by decide +kernel
theorem d16_32 : decode jdk_43_method_22_code 32 = .ok (.iload_n 3, 1) := by decide +kernel
theorem d16_33 : decode jdk_43_method_22_code 33 = .ok (.invokestatic 95, 3) := by decide +kernel
theorem d16_36 : decode jdk_43_method_22_code 36 = .ok (.ireturn, 1) := by decide +kernel
theorem pd_2 : parseMethodDescriptor "(I)Z" = some ⟨[.int], some .boolean⟩ := by decide +kernel
theorem pd_3 : parseMethodDescriptor "(II)I" = some ⟨[.int, .int], some .int⟩ := by decide +kernel
theorem pd_4 : parseMethodDescriptor "([BIII)I" = some ⟨[(.array .byte), .int, .int, .int], some .int⟩ := by decide +kernel
theorem ef_16a (m : MethodId) (tv : Addr) : entryFrame m #[(.ref tv), (.int (46 : Int32)), (.int (0 : Int32)), (.int (6 : Int32))] 4 = mkF m 0 #[.val (.ref tv), .val (.int (46 : Int32)), .val (.int (0 : Int32)), .val (.int (6 : Int32))] [] := by first | (simp [entryFrame, mkF, argsToLocals, Value.category]; done) | rfl
def Q16a (Z : State) (tv : Addr) (kb : ClassId) (b0 : Int32) (b1 : Int32) (b2 : Int32) (b3 : Int32) (b4 : Int32) (b5 : Int32) (h0 : Heap) (n0 : Nat) (v : Option Value) (h : Heap) (L : List Loc) : Prop := v = some (.int (own_f6 b0 b1 b2 b3 b4 b5)) ∧ Fr n0 L ∧ h = h0
set_option maxRecDepth 65536 in
set_option maxHeartbeats 40000000 in
theorem rm16a (l : Launch) (Z : State) (a0 : Array Value) (hw : ∀ d ∈ tables_1, d.before a0 Z = true) (ws : List Jvm.Cond) (tv : Addr) (kb : ClassId) (b0 : Int32) (b1 : Int32) (b2 : Int32) (b3 : Int32) (b4 : Int32) (b5 : Int32) (h0 : Heap) (n0 : Nat) (Z0 : n0 ≤ h0.size) (P_V_tv : Arv Z h0 tv kb .byte (6 : Int32) [(.int b0), (.int b1), (.int b2), (.int b3), (.int b4), (.int b5)] (.int (0 : Int32))) :
    MetFree l (⟨"java/lang/StringLatin1", "indexOf", "([BIII)I"⟩ : MethodName) (head1 (Jvm.Cond.code (⟨"java/lang/StringLatin1", "indexOf", "([BIII)I"⟩ : MethodName) jdk_43_method_22_code 4 (some .int) :: ws) ({ frames := 1, cells := 0, slots := 0, locals := 17 } : Room)) (fun a U => a = #[(.ref tv), (.int (46 : Int32)), (.int (0 : Int32)), (.int (6 : Int32))] ∧ Z.Warmed39 U.vm ∧ U.heap = h0) (fun _ _ _ _ _ => True) (fun _ U o U' => ∃ v L, o = .returned v ∧ (Q16a Z tv kb b0 b1 b2 b3 b4 b5 h0 n0) v U'.heap L ∧ FrameEnd U o U' L ({ frames := 1, cells := 0, slots := 0, locals := 17 } : Room).cells ({ frames := 1, cells := 0, slots := 0, locals := 17 } : Room).slots) := by
  refine MetFree.of_bodySF (plainFor_of_name pn_4) hisR ?_
  intro p e s m args below meth c s₁ Bd hml0 hP hK
  obtain ⟨rfl, hZ, hh⟩ := hP
  have hx := Bd.exec
  have hby := Bd.bytes
  have hml : c.maxLocals = 4 := hml0
  have hown : s.vm.findClass "java/lang/StringLatin1" = some m.cls := findClass_of_methodNamed Bd.named
  have hnm := (name_of_methodNamed Bd.named Bd.method).1
  have hlk : meth.locks = false := BodyLoose.notSynchronized Bd
  have X0 : Stand p l e ({ frames := 1, cells := 0, slots := 0, locals := 17 } : Room) s m #[(.ref tv), (.int (46 : Int32)), (.int (0 : Int32)), (.int (6 : Int32))] below meth c s₁ [] 0 0 := Stand.of_body Bd
  have e0 : s₁.heap = h0 := by rw [← hh, Bd.state]; rfl
  have N0 := Fr.nil n0
  show own_G p.tables e below (s₁.setTop (entryFrame m #[(.ref tv), (.int (46 : Int32)), (.int (0 : Int32)), (.int (6 : Int32))] 4)) s ({ frames := 1, cells := 0, slots := 0, locals := 17 } : Room).cells ({ frames := 1, cells := 0, slots := 0, locals := 17 } : Room).slots (Q16a Z tv kb b0 b1 b2 b3 b4 b5 h0 n0)
  refine own_go (fun _ k => castTop (ef_16a m tv) k) ?_
  show own_G _ _ _ (s₁.setTop (mkF m 0 #[.val (.ref tv), .val (.int (46 : Int32)), .val (.int (0 : Int32)), .val (.int (6 : Int32))] [])) _ _ _ _
  refine own_go (fun _ k => XS.iloadN X0.here hx rfl (hb hby d16_0) rfl k) ?_
  show own_G _ _ _ (s₁.setTop (mkF m 1 #[.val (.ref tv), .val (.int (46 : Int32)), .val (.int (0 : Int32)), .val (.int (6 : Int32))] [(.int (46 : Int32))])) _ _ _ _
  obtain ⟨_, _, ⟨T1, L1, k1, n1⟩, -, X1, ⟨Lc1, hQ1, l1, y1, z1⟩, st1⟩ := Jvm.LawKit.callS X0 hx (y := (⟨"java/lang/StringLatin1", "canEncode", "(I)Z"⟩ : MethodName)) hown (mvT hZ (hw _ (List.mem_of_getElem? (i := 85) rfl))) (mvT hZ (hw _ (List.mem_of_getElem? (i := 86) rfl))) (mvT hZ (hw _ (List.mem_of_getElem? (i := 83) rfl))) (mvT hZ (hw _ (List.mem_of_getElem? (i := 87) rfl))) (by decide) (backOf (W := 0) (rm17 l Z a0 hw [] (46 : Int32) h0 n0) hZ (hw _ (List.mem_of_getElem? (i := 87) rfl)) (hw _ (List.mem_of_getElem? (i := 83) rfl)) (by decide) (by decide)) (g := (mkF m 1 #[.val (.ref tv), .val (.int (46 : Int32)), .val (.int (0 : Int32)), .val (.int (6 : Int32))] [(.int (46 : Int32))])) rfl (by rw [hml]; rfl) (argsL := [(.int (46 : Int32))]) (rest := []) (lenOf pd_2 rfl) rfl (by show 2 * 0 + _ ≤ _; exact Nat.le_of_eq rfl) (hb hby d16_1) (fun _ _ => ⟨rfl, e0, (by decide : 0 + 0 ≤ _), (by decide : 0 + 0 ≤ _)⟩)
  dsimp only [Pt.U, Pt.locs, Pt.cells, Pt.slots] at X1 l1 y1 z1 st1 hQ1
  rw [l1] at X1
  subst y1 z1
  obtain ⟨rfl, Nq1, eh1⟩ := hQ1
  have N1 := Fr.app N0 Nq1
  refine own_go (fun _ k => st1 _ k) ?_
  show own_G _ _ _ (T1.setTop (mkF m 4 #[.val (.ref tv), .val (.int (46 : Int32)), .val (.int (0 : Int32)), .val (.int (6 : Int32))] [(.int (own_can (46 : Int32)))])) _ _ _ _
  have hc2 : ¬ ((own_can (46 : Int32)) = (0 : Int32)) := (by decide)
  refine own_go (fun _ k => XS.ifYes X1.here hx rfl (pc0 := 4) (pc' := 9) rfl (hb hby d16_4) rfl ((if0 _ _).trans (feq hc2).2) (by decide) (by decide) k) ?_
  show own_G _ _ _ (T1.setTop (mkF m 9 #[.val (.ref tv), .val (.int (46 : Int32)), .val (.int (0 : Int32)), .val (.int (6 : Int32))] [])) _ _ _ _
  refine own_go (fun _ k => XS.iloadN X1.here hx rfl (hb hby d16_9) rfl k) ?_
  show own_G _ _ _ (T1.setTop (mkF m 10 #[.val (.ref tv), .val (.int (46 : Int32)), .val (.int (0 : Int32)), .val (.int (6 : Int32))] [(.int (0 : Int32))])) _ _ _ _
  refine own_go (fun _ k => XS.iconst X1.here hx rfl (hb hby d16_10) k) ?_
  show own_G _ _ _ (T1.setTop (mkF m 11 #[.val (.ref tv), .val (.int (46 : Int32)), .val (.int (0 : Int32)), .val (.int (6 : Int32))] [(.int (0 : Int32)), (.int (0 : Int32))])) _ _ _ _
  obtain ⟨_, _, ⟨T3, L3, k3, n3⟩, -, X3, ⟨Lc3, hQ3, l3, y3, z3⟩, st3⟩ := Jvm.LawKit.callS X1 hx (y := (⟨"java/lang/Math", "max", "(II)I"⟩ : MethodName)) hown (mvT hZ (hw _ (List.mem_of_getElem? (i := 88) rfl))) (mvT hZ (hw _ (List.mem_of_getElem? (i := 89) rfl))) (mvT hZ (hw _ (List.mem_of_getElem? (i := 90) rfl))) (mvT hZ (hw _ (List.mem_of_getElem? (i := 91) rfl))) (by decide) (backOf (W := 0) (rm18 l Z a0 hw [] (0 : Int32) (0 : Int32) h0 n0) hZ (hw _ (List.mem_of_getElem? (i := 91) rfl)) (hw _ (List.mem_of_getElem? (i := 90) rfl)) (by decide) (by decide)) (g := (mkF m 11 #[.val (.ref tv), .val (.int (46 : Int32)), .val (.int (0 : Int32)), .val (.int (6 : Int32))] [(.int (0 : Int32)), (.int (0 : Int32))])) rfl (by rw [hml]; rfl) (argsL := [(.int (0 : Int32)), (.int (0 : Int32))]) (rest := []) (lenOf pd_3 rfl) rfl (by show 2 * 0 + _ ≤ _; exact Nat.le_of_eq rfl) (hb hby d16_11) (fun _ _ => ⟨rfl, eh1, (by decide : 0 + 0 ≤ _), (by decide : 0 + 0 ≤ _)⟩)
  dsimp only [Pt.U, Pt.locs, Pt.cells, Pt.slots] at X3 l3 y3 z3 st3 hQ3
  rw [l3] at X3
  subst y3 z3
  obtain ⟨rfl, Nq3, eh3⟩ := hQ3
  have N3 := Fr.app N1 Nq3
  refine own_go (fun _ k => st3 _ k) ?_
  show own_G _ _ _ (T3.setTop (mkF m 14 #[.val (.ref tv), .val (.int (46 : Int32)), .val (.int (0 : Int32)), .val (.int (6 : Int32))] [(.int (0 : Int32))])) _ _ _ _
  refine own_go (fun _ k => XS.istoreN X3.here hx rfl (hb hby d16_14) rfl (l' := #[.val (.ref tv), .val (.int (46 : Int32)), .val (.int (0 : Int32)), .val (.int (6 : Int32))]) rfl k) ?_
  show own_G _ _ _ (T3.setTop (mkF m 15 #[.val (.ref tv), .val (.int (46 : Int32)), .val (.int (0 : Int32)), .val (.int (6 : Int32))] [])) _ _ _ _
  refine own_go (fun _ k => XS.iloadN X3.here hx rfl (hb hby d16_15) rfl k) ?_
  show own_G _ _ _ (T3.setTop (mkF m 16 #[.val (.ref tv), .val (.int (46 : Int32)), .val (.int (0 : Int32)), .val (.int (6 : Int32))] [(.int (6 : Int32))])) _ _ _ _
  refine own_go (fun _ k => XS.aloadN X3.here hx rfl (hb hby d16_16) rfl rfl k) ?_
  show own_G _ _ _ (T3.setTop (mkF m 17 #[.val (.ref tv), .val (.int (46 : Int32)), .val (.int (0 : Int32)), .val (.int (6 : Int32))] [(.ref tv), (.int (6 : Int32))])) _ _ _ _
  obtain ⟨cl4, Ar4, -, S4, Ng4, -, -⟩ := id P_V_tv
  refine own_go (fun _ k => X3.arraylength hx (by rw [eh3]; exact Ar4.1) (State.isArrayOf_alike hZ.alike Ar4.2.1) (g := (mkF m 17 #[.val (.ref tv), .val (.int (46 : Int32)), .val (.int (0 : Int32)), .val (.int (6 : Int32))] [(.ref tv), (.int (6 : Int32))])) rfl rfl (hb hby d16_17) _ k) ?_
  rw [len_of S4 Ng4]
  show own_G _ _ _ (T3.setTop (mkF m 18 #[.val (.ref tv), .val (.int (46 : Int32)), .val (.int (0 : Int32)), .val (.int (6 : Int32))] [(.int (6 : Int32)), (.int (6 : Int32))])) _ _ _ _
  obtain ⟨_, _, ⟨T5, L5, k5, n5⟩, -, X5, ⟨Lc5, hQ5, l5, y5, z5⟩, st5⟩ := Jvm.LawKit.callS X3 hx (y := (⟨"java/lang/Math", "min", "(II)I"⟩ : MethodName)) hown (mvT hZ (hw _ (List.mem_of_getElem? (i := 92) rfl))) (mvT hZ (hw _ (List.mem_of_getElem? (i := 93) rfl))) (mvT hZ (hw _ (List.mem_of_getElem? (i := 90) rfl))) (mvT hZ (hw _ (List.mem_of_getElem? (i := 94) rfl))) (by decide) (backOf (W := 0) (rm19 l Z a0 hw [] (6 : Int32) (6 : Int32) h0 n0) hZ (hw _ (List.mem_of_getElem? (i := 94) rfl)) (hw _ (List.mem_of_getElem? (i := 90) rfl)) (by decide) (by decide)) (g := (mkF m 18 #[.val (.ref tv), .val (.int (46 : Int32)), .val (.int (0 : Int32)), .val (.int (6 : Int32))] [(.int (6 : Int32)), (.int (6 : Int32))])) rfl (by rw [hml]; rfl) (argsL := [(.int (6 : Int32)), (.int (6 : Int32))]) (rest := []) (lenOf pd_3 rfl) rfl (by show 2 * 0 + _ ≤ _; exact Nat.le_of_eq rfl) (hb hby d16_18) (fun _ _ => ⟨rfl, eh3, (by decide : 0 + 0 ≤ _), (by decide : 0 + 0 ≤ _)⟩)
  dsimp only [Pt.U, Pt.locs, Pt.cells, Pt.slots] at X5 l5 y5 z5 st5 hQ5
  rw [l5] at X5
  subst y5 z5
  obtain ⟨rfl, Nq5, eh5⟩ := hQ5
  have N5 := Fr.app N3 Nq5
  refine own_go (fun _ k => st5 _ k) ?_
  show own_G _ _ _ (T5.setTop (mkF m 21 #[.val (.ref tv), .val (.int (46 : Int32)), .val (.int (0 : Int32)), .val (.int (6 : Int32))] [(.int (6 : Int32))])) _ _ _ _
  refine own_go (fun _ k => XS.istoreN X5.here hx rfl (hb hby d16_21) rfl (l' := #[.val (.ref tv), .val (.int (46 : Int32)), .val (.int (0 : Int32)), .val (.int (6 : Int32))]) rfl k) ?_
  show own_G _ _ _ (T5.setTop (mkF m 22 #[.val (.ref tv), .val (.int (46 : Int32)), .val (.int (0 : Int32)), .val (.int (6 : Int32))] [])) _ _ _ _
  refine own_go (fun _ k => XS.iloadN X5.here hx rfl (hb hby d16_22) rfl k) ?_
  show own_G _ _ _ (T5.setTop (mkF m 23 #[.val (.ref tv), .val (.int (46 : Int32)), .val (.int (0 : Int32)), .val (.int (6 : Int32))] [(.int (0 : Int32))])) _ _ _ _
  refine own_go (fun _ k => XS.iloadN X5.here hx rfl (hb hby d16_23) rfl k) ?_
  show own_G _ _ _ (T5.setTop (mkF m 24 #[.val (.ref tv), .val (.int (46 : Int32)), .val (.int (0 : Int32)), .val (.int (6 : Int32))] [(.int (6 : Int32)), (.int (0 : Int32))])) _ _ _ _
  have hc6 : (0 : Int32) < (6 : Int32) := (by decide)
  refine own_go (fun _ k => XS.icmpYes X5.here hx rfl (pc0 := 24) (pc' := 29) rfl (hb hby d16_24) rfl (tlt hc6).1 (by decide) (by decide) k) ?_
  show own_G _ _ _ (T5.setTop (mkF m 29 #[.val (.ref tv), .val (.int (46 : Int32)), .val (.int (0 : Int32)), .val (.int (6 : Int32))] [])) _ _ _ _
  refine own_go (fun _ k => XS.aloadN X5.here hx rfl (hb hby d16_29) rfl rfl k) ?_
  show own_G _ _ _ (T5.setTop (mkF m 30 #[.val (.ref tv), .val (.int (46 : Int32)), .val (.int (0 : Int32)), .val (.int (6 : Int32))] [(.ref tv)])) _ _ _ _
  refine own_go (fun _ k => XS.iloadN X5.here hx rfl (hb hby d16_30) rfl k) ?_
  show own_G _ _ _ (T5.setTop (mkF m 31 #[.val (.ref tv), .val (.int (46 : Int32)), .val (.int (0 : Int32)), .val (.int (6 : Int32))] [(.int (46 : Int32)), (.ref tv)])) _ _ _ _
  refine own_go (fun _ k => XS.iloadN X5.here hx rfl (hb hby d16_31) rfl k) ?_
  show own_G _ _ _ (T5.setTop (mkF m 32 #[.val (.ref tv), .val (.int (46 : Int32)), .val (.int (0 : Int32)), .val (.int (6 : Int32))] [(.int (0 : Int32)), (.int (46 : Int32)), (.ref tv)])) _ _ _ _
  refine own_go (fun _ k => XS.iloadN X5.here hx rfl (hb hby d16_32) rfl k) ?_
  show own_G _ _ _ (T5.setTop (mkF m 33 #[.val (.ref tv), .val (.int (46 : Int32)), .val (.int (0 : Int32)), .val (.int (6 : Int32))] [(.int (6 : Int32)), (.int (0 : Int32)), (.int (46 : Int32)), (.ref tv)])) _ _ _ _
  obtain ⟨_, _, ⟨T7, L7, k7, n7⟩, -, X7, ⟨Lc7, hQ7, l7, y7, z7⟩, st7⟩ := Jvm.LawKit.callS X5 hx (y := (⟨"java/lang/StringLatin1", "indexOfChar", "([BIII)I"⟩ : MethodName)) hown (mvT hZ (hw _ (List.mem_of_getElem? (i := 95) rfl))) (mvT hZ (hw _ (List.mem_of_getElem? (i := 96) rfl))) (mvT hZ (hw _ (List.mem_of_getElem? (i := 83) rfl))) (mvT hZ (hw _ (List.mem_of_getElem? (i := 97) rfl))) (by decide) (backOf (W := 0) (rm20a l Z a0 hw [] tv kb b0 b1 b2 b3 b4 b5 h0 n0 Z0 P_V_tv) hZ (hw _ (List.mem_of_getElem? (i := 97) rfl)) (hw _ (List.mem_of_getElem? (i := 83) rfl)) (by decide) (by decide)) (g := (mkF m 33 #[.val (.ref tv), .val (.int (46 : Int32)), .val (.int (0 : Int32)), .val (.int (6 : Int32))] [(.int (6 : Int32)), (.int (0 : Int32)), (.int (46 : Int32)), (.ref tv)])) rfl (by rw [hml]; rfl) (argsL := [(.ref tv), (.int (46 : Int32)), (.int (0 : Int32)), (.int (6 : Int32))]) (rest := []) (lenOf pd_4 rfl) rfl (by show 2 * 0 + _ ≤ _; exact Nat.le_of_eq rfl) (hb hby d16_33) (fun _ _ => ⟨rfl, eh5, (by decide : 0 + 0 ≤ _), (by decide : 0 + 0 ≤ _)⟩)
  dsimp only [Pt.U, Pt.locs, Pt.cells, Pt.slots] at X7 l7 y7 z7 st7 hQ7
  rw [l7] at X7
  subst y7 z7
  obtain ⟨rfl, Nq7, eh7⟩ := hQ7
  have N7 := Fr.app N5 Nq7
  refine own_go (fun _ k => st7 _ k) ?_
  show own_G _ _ _ (T7.setTop (mkF m 36 #[.val (.ref tv), .val (.int (46 : Int32)), .val (.int (0 : Int32)), .val (.int (6 : Int32))] [(.int (own_f6 b0 b1 b2 b3 b4 b5))])) _ _ _ _
  exact own_endI X7 hx hlk Bd.returns (hb hby d16_36) (by decide) (by decide) (Q := (Q16a Z tv kb b0 b1 b2 b3 b4 b5 h0 n0)) (by rw [eh7]; exact ⟨rfl, N7, rfl⟩)
theorem d12_0 : decode jdk_42_method_80_code 0 = .ok (.aload_n 0, 1) := by decide +kernel
theorem d12_1 : decode jdk_42_method_80_code 1 = .ok (.invokevirtual 492, 3) := by decide +kernel
theorem d12_4 : decode jdk_42_method_80_code 4 = .ok (.ifCond .eq 19, 3) := by decide +kernel
theorem d12_7 : decode jdk_42_method_80_code 7 = .ok (.aload_n 0, 1) := by decide +kernel
theorem d12_8 : decode jdk_42_method_80_code 8 = .ok (.getfield 9, 3) := by decide +kernel
theorem d12_11 : decode jdk_42_method_80_code 11 = .ok (.iload_n 1, 1) := by decide +kernel
theorem d12_12 : decode jdk_42_method_80_code 12 = .ok (.iload_n 2, 1) := by decide +kernel
theorem d12_13 : decode jdk_42_method_80_code 13 = .ok (.aload_n 0, 1) := by decide +kernel
theorem d12_14 : decode jdk_42_method_80_code 14 = .ok (.invokevirtual 505, 3) := by decide +kernel
theorem d12_17 : decode jdk_42_method_80_code 17 = .ok (.invokestatic 637, 3) := by decide +kernel
theorem d12_20 : decode jdk_42_method_80_code 20 = .ok (.goto 16, 3) := by decide +kernel
theorem d12_23 : decode jdk_42_method_80_code 23 = .ok (.aload_n 0, 1) := by decide +kernel
theorem d12_24 : decode jdk_42_method_80_code 24 = .ok (.getfield 9, 3) := by decide +kernel
theorem d12_27 : decode jdk_42_method_80_code 27 = .ok (.iload_n 1, 1) := by decide +kernel
theorem d12_28 : decode jdk_42_method_80_code 28 = .ok (.iload_n 2, 1) := by decide +kernel
theorem d12_29 : decode jdk_42_method_80_code 29 = .ok (.aload_n 0, 1) := by decide +kernel
theorem d12_30 : decode jdk_42_method_80_code 30 = .ok (.invokevirtual 505, 3) := by decide +kernel
theorem d12_33 : decode jdk_42_method_80_code 33 = .ok (.invokestatic 640, 3) := by decide +kernel
theorem d12_36 : decode jdk_42_method_80_code 36 = .ok (.ireturn, 1) := by decide +kernel
theorem pd_5 : parseMethodDescriptor "()Z" = some ⟨[], some .boolean⟩ := by decide +kernel
theorem pd_6 : parseMethodDescriptor "()I" = some ⟨[], some .int⟩ := by decide +kernel
theorem ef_12a (m : MethodId) (p0 : Addr) : entryFrame m #[(.ref p0), (.int (46 : Int32)), (.int (0 : Int32))] 3 = mkF m 0 #[.val (.ref p0), .val (.int (46 : Int32)), .val (.int (0 : Int32))] [] := by first | (simp [entryFrame, mkF, argsToLocals, Value.category]; done) | rfl
def Q12a (Z : State) (p0 : Addr) (zc : Int32) (tv : Addr) (kb : ClassId) (b0 : Int32) (b1 : Int32) (b2 : Int32) (b3 : Int32) (b4 : Int32) (b5 : Int32) (h0 : Heap) (n0 : Nat) (v : Option Value) (h : Heap) (L : List Loc) : Prop := v = some (.int (own_f6 b0 b1 b2 b3 b4 b5)) ∧ Fr n0 L ∧ h = h0
set_option maxRecDepth 65536 in
set_option maxHeartbeats 40000000 in
theorem rm12a (l : Launch) (Z : State) (a0 : Array Value) (hw : ∀ d ∈ tables_1, d.before a0 Z = true) (ws : List Jvm.Cond) (p0 : Addr) (zc : Int32) (tv : Addr) (kb : ClassId) (b0 : Int32) (b1 : Int32) (b2 : Int32) (b3 : Int32) (b4 : Int32) (b5 : Int32) (h0 : Heap) (n0 : Nat) (Z0 : n0 ≤ h0.size) (P_Old : Old Z n0 h0) (P_ZS_java_lang_String_COMPACT_STRINGS : Sta Z Z.heap "java/lang/String" "COMPACT_STRINGS" "Z" (.int zc)) (hcs : ¬ zc = 0) (P_E_p0 : Exa Z h0 p0 "java/lang/String") (P_F_p0_coder : Fld Z h0 p0 "java/lang/String" "coder" "B" (.int 0)) (P_F_p0_value : Fld Z h0 p0 "java/lang/String" "value" "[B" (.ref tv)) (P_V_tv : Arv Z h0 tv kb .byte (6 : Int32) [(.int b0), (.int b1), (.int b2), (.int b3), (.int b4), (.int b5)] (.int (0 : Int32))) :
    MetFree l (⟨"java/lang/String", "indexOf", "(II)I"⟩ : MethodName) (head1 (Jvm.Cond.code (⟨"java/lang/String", "indexOf", "(II)I"⟩ : MethodName) jdk_42_method_80_code 3 (some .int) :: ws) ({ frames := 2, cells := 0, slots := 0, locals := 32 } : Room)) (fun a U => a = #[(.ref p0), (.int (46 : Int32)), (.int (0 : Int32))] ∧ Z.Warmed39 U.vm ∧ U.heap = h0) (fun _ _ _ _ _ => True) (fun _ U o U' => ∃ v L, o = .returned v ∧ (Q12a Z p0 zc tv kb b0 b1 b2 b3 b4 b5 h0 n0) v U'.heap L ∧ FrameEnd U o U' L ({ frames := 2, cells := 0, slots := 0, locals := 32 } : Room).cells ({ frames := 2, cells := 0, slots := 0, locals := 32 } : Room).slots) := by
  refine MetFree.of_bodySF (plainFor_of_name pn_3) hisR ?_
  intro p e s m args below meth c s₁ Bd hml0 hP hK
  obtain ⟨rfl, hZ, hh⟩ := hP
  have hx := Bd.exec
  have hby := Bd.bytes
  have hml : c.maxLocals = 3 := hml0
  have hown : s.vm.findClass "java/lang/String" = some m.cls := findClass_of_methodNamed Bd.named
  have hnm := (name_of_methodNamed Bd.named Bd.method).1
  have hlk : meth.locks = false := BodyLoose.notSynchronized Bd
  have X0 : Stand p l e ({ frames := 2, cells := 0, slots := 0, locals := 32 } : Room) s m #[(.ref p0), (.int (46 : Int32)), (.int (0 : Int32))] below meth c s₁ [] 0 0 := Stand.of_body Bd
  have e0 : s₁.heap = h0 := by rw [← hh, Bd.state]; rfl
  have N0 := Fr.nil n0
  show own_G p.tables e below (s₁.setTop (entryFrame m #[(.ref p0), (.int (46 : Int32)), (.int (0 : Int32))] 3)) s ({ frames := 2, cells := 0, slots := 0, locals := 32 } : Room).cells ({ frames := 2, cells := 0, slots := 0, locals := 32 } : Room).slots (Q12a Z p0 zc tv kb b0 b1 b2 b3 b4 b5 h0 n0)
  refine own_go (fun _ k => castTop (ef_12a m p0) k) ?_
  show own_G _ _ _ (s₁.setTop (mkF m 0 #[.val (.ref p0), .val (.int (46 : Int32)), .val (.int (0 : Int32))] [])) _ _ _ _
  refine own_go (fun _ k => XS.aloadN X0.here hx rfl (hb hby d12_0) rfl rfl k) ?_
  show own_G _ _ _ (s₁.setTop (mkF m 1 #[.val (.ref p0), .val (.int (46 : Int32)), .val (.int (0 : Int32))] [(.ref p0)])) _ _ _ _
  obtain ⟨cq1, kq1, q1a, q1b, q1c⟩ := isOf hZ e0 P_E_p0
  obtain ⟨_, _, ⟨T1, L1, k1, n1⟩, -, X1, ⟨Lc1, hQ1, l1, y1, z1⟩, st1⟩ := X0.virtualBack hx (y := (⟨"java/lang/String", "isLatin1", "()Z"⟩ : MethodName)) (z := (⟨"java/lang/String", "isLatin1", "()Z"⟩ : MethodName)) hown (mvT hZ (hw _ (List.mem_of_getElem? (i := 66) rfl))) (mvT hZ (hw _ (List.mem_of_getElem? (i := 67) rfl))) (notFace_of_selects (args := #[]) (mvT hZ (hw _ (List.mem_of_getElem? (i := 69) rfl)))) (mvT hZ (hw _ (List.mem_of_getElem? (i := 69) rfl))) (mvT hZ (hw _ (List.mem_of_getElem? (i := 68) rfl))) (by decide) (backOf (W := 0) (rm13 l Z a0 hw [] p0 zc h0 n0 Z0 P_Old P_ZS_java_lang_String_COMPACT_STRINGS (by assumption) P_F_p0_coder) hZ (hw _ (List.mem_of_getElem? (i := 70) rfl)) (hw _ (List.mem_of_getElem? (i := 13) rfl)) (by decide) (by decide)) q1a q1c (g := (mkF m 1 #[.val (.ref p0), .val (.int (46 : Int32)), .val (.int (0 : Int32))] [(.ref p0)])) rfl (by rw [hml]; rfl) (Steps.refl _) (argsL := []) (rest := []) (lenOf pd_5 rfl) rfl (by show 2 * 0 + _ ≤ _; exact Nat.le_of_eq rfl) (hb hby d12_1) (fun _ _ => ⟨rfl, e0, (by decide : 0 + 0 ≤ _), (by decide : 0 + 0 ≤ _)⟩)
  dsimp only [Pt.U, Pt.locs, Pt.cells, Pt.slots] at X1 l1 y1 z1 st1 hQ1
  rw [l1] at X1
  subst y1 z1
  obtain ⟨rfl, Nq1, eh1⟩ := hQ1
  have N1 := Fr.app N0 Nq1
  refine own_tr st1 ?_
  show own_G _ _ _ (T1.setTop (mkF m 4 #[.val (.ref p0), .val (.int (46 : Int32)), .val (.int (0 : Int32))] [(.int (1 : Int32))])) _ _ _ _
  have hc2 : ¬ ((1 : Int32) = (0 : Int32)) := (by decide)
  refine own_go (fun _ k => XS.ifNo X1.here hx rfl (hb hby d12_4) rfl ((if0 _ _).trans (feq hc2).1) k) ?_
  show own_G _ _ _ (T1.setTop (mkF m 7 #[.val (.ref p0), .val (.int (46 : Int32)), .val (.int (0 : Int32))] [])) _ _ _ _
  refine own_go (fun _ k => XS.aloadN X1.here hx rfl (hb hby d12_7) rfl rfl k) ?_
  show own_G _ _ _ (T1.setTop (mkF m 8 #[.val (.ref p0), .val (.int (46 : Int32)), .val (.int (0 : Int32))] [(.ref p0)])) _ _ _ _
  obtain ⟨T3, X3, e3, st3⟩ := getF X1 hx hZ hown (host := "") (Or.inl (hw _ (List.mem_of_getElem? (i := 38) rfl))) Via.refl eh1 P_F_p0_value (g := (mkF m 8 #[.val (.ref p0), .val (.int (46 : Int32)), .val (.int (0 : Int32))] [(.ref p0)])) rfl rfl (hb hby d12_8)
  refine own_go (fun _ k => st3 _ k) ?_
  show own_G _ _ _ (T3.setTop (mkF m 11 #[.val (.ref p0), .val (.int (46 : Int32)), .val (.int (0 : Int32))] [(.ref tv)])) _ _ _ _
  refine own_go (fun _ k => XS.iloadN X3.here hx rfl (hb hby d12_11) rfl k) ?_
  show own_G _ _ _ (T3.setTop (mkF m 12 #[.val (.ref p0), .val (.int (46 : Int32)), .val (.int (0 : Int32))] [(.int (46 : Int32)), (.ref tv)])) _ _ _ _
  refine own_go (fun _ k => XS.iloadN X3.here hx rfl (hb hby d12_12) rfl k) ?_
  show own_G _ _ _ (T3.setTop (mkF m 13 #[.val (.ref p0), .val (.int (46 : Int32)), .val (.int (0 : Int32))] [(.int (0 : Int32)), (.int (46 : Int32)), (.ref tv)])) _ _ _ _
  refine own_go (fun _ k => XS.aloadN X3.here hx rfl (hb hby d12_13) rfl rfl k) ?_
  show own_G _ _ _ (T3.setTop (mkF m 14 #[.val (.ref p0), .val (.int (46 : Int32)), .val (.int (0 : Int32))] [(.ref p0), (.int (0 : Int32)), (.int (46 : Int32)), (.ref tv)])) _ _ _ _
  obtain ⟨cq4, kq4, q4a, q4b, q4c⟩ := isOf hZ e3 P_E_p0
  obtain ⟨_, _, ⟨T4, L4, k4, n4⟩, -, X4, ⟨Lc4, hQ4, l4, y4, z4⟩, st4⟩ := X3.virtualBack hx (y := (⟨"java/lang/String", "length", "()I"⟩ : MethodName)) (z := (⟨"java/lang/String", "length", "()I"⟩ : MethodName)) hown (mvT hZ (hw _ (List.mem_of_getElem? (i := 71) rfl))) (mvT hZ (hw _ (List.mem_of_getElem? (i := 72) rfl))) (notFace_of_selects (args := #[]) (mvT hZ (hw _ (List.mem_of_getElem? (i := 74) rfl)))) (mvT hZ (hw _ (List.mem_of_getElem? (i := 74) rfl))) (mvT hZ (hw _ (List.mem_of_getElem? (i := 73) rfl))) (by decide) (backOf (W := 3) (rm14a l Z a0 hw [] p0 zc tv kb b0 b1 b2 b3 b4 b5 h0 n0 Z0 P_Old P_ZS_java_lang_String_COMPACT_STRINGS (by assumption) P_E_p0 P_F_p0_coder P_F_p0_value P_V_tv) hZ (hw _ (List.mem_of_getElem? (i := 75) rfl)) (hw _ (List.mem_of_getElem? (i := 13) rfl)) (by decide) (by decide)) q4a q4c (g := (mkF m 14 #[.val (.ref p0), .val (.int (46 : Int32)), .val (.int (0 : Int32))] [(.ref p0), (.int (0 : Int32)), (.int (46 : Int32)), (.ref tv)])) rfl (by rw [hml]; rfl) (Steps.refl _) (argsL := []) (rest := [(.int (0 : Int32)), (.int (46 : Int32)), (.ref tv)]) (lenOf pd_6 rfl) rfl (by show 2 * 0 + _ ≤ _; exact Nat.le_of_eq rfl) (hb hby d12_14) (fun _ _ => ⟨rfl, e3, (by decide : 0 + 0 ≤ _), (by decide : 0 + 0 ≤ _)⟩)
  dsimp only [Pt.U, Pt.locs, Pt.cells, Pt.slots] at X4 l4 y4 z4 st4 hQ4
  rw [l4] at X4
  subst y4 z4
  obtain ⟨rfl, Nq4, eh4⟩ := hQ4
  have N4 := Fr.app N1 Nq4
  refine own_tr st4 ?_
  show own_G _ _ _ (T4.setTop (mkF m 17 #[.val (.ref p0), .val (.int (46 : Int32)), .val (.int (0 : Int32))] [(.int (6 : Int32)), (.int (0 : Int32)), (.int (46 : Int32)), (.ref tv)])) _ _ _ _
  obtain ⟨_, _, ⟨T5, L5, k5, n5⟩, -, X5, ⟨Lc5, hQ5, l5, y5, z5⟩, st5⟩ := Jvm.LawKit.callS X4 hx (y := (⟨"java/lang/StringLatin1", "indexOf", "([BIII)I"⟩ : MethodName)) hown (mvT hZ (hw _ (List.mem_of_getElem? (i := 81) rfl))) (mvT hZ (hw _ (List.mem_of_getElem? (i := 82) rfl))) (mvT hZ (hw _ (List.mem_of_getElem? (i := 83) rfl))) (mvT hZ (hw _ (List.mem_of_getElem? (i := 84) rfl))) (by decide) (backOf (W := 0) (rm16a l Z a0 hw [] tv kb b0 b1 b2 b3 b4 b5 h0 n0 Z0 P_V_tv) hZ (hw _ (List.mem_of_getElem? (i := 84) rfl)) (hw _ (List.mem_of_getElem? (i := 83) rfl)) (by decide) (by decide)) (g := (mkF m 17 #[.val (.ref p0), .val (.int (46 : Int32)), .val (.int (0 : Int32))] [(.int (6 : Int32)), (.int (0 : Int32)), (.int (46 : Int32)), (.ref tv)])) rfl (by rw [hml]; rfl) (argsL := [(.ref tv), (.int (46 : Int32)), (.int (0 : Int32)), (.int (6 : Int32))]) (rest := []) (lenOf pd_4 rfl) rfl (by show 2 * 0 + _ ≤ _; exact Nat.le_of_eq rfl) (hb hby d12_17) (fun _ _ => ⟨rfl, eh4, (by decide : 0 + 0 ≤ _), (by decide : 0 + 0 ≤ _)⟩)
  dsimp only [Pt.U, Pt.locs, Pt.cells, Pt.slots] at X5 l5 y5 z5 st5 hQ5
  rw [l5] at X5
  subst y5 z5
  obtain ⟨rfl, Nq5, eh5⟩ := hQ5
  have N5 := Fr.app N4 Nq5
  refine own_go (fun _ k => st5 _ k) ?_
  show own_G _ _ _ (T5.setTop (mkF m 20 #[.val (.ref p0), .val (.int (46 : Int32)), .val (.int (0 : Int32))] [(.int (own_f6 b0 b1 b2 b3 b4 b5))])) _ _ _ _
  refine own_go (fun _ k => XS.goto X5.here hx rfl (pc0 := 20) (pc' := 36) rfl (hb hby d12_20) (by decide) (by decide) k) ?_
  show own_G _ _ _ (T5.setTop (mkF m 36 #[.val (.ref p0), .val (.int (46 : Int32)), .val (.int (0 : Int32))] [(.int (own_f6 b0 b1 b2 b3 b4 b5))])) _ _ _ _
  exact own_endI X5 hx hlk Bd.returns (hb hby d12_36) (by decide) (by decide) (Q := (Q12a Z p0 zc tv kb b0 b1 b2 b3 b4 b5 h0 n0)) (by rw [eh5]; exact ⟨rfl, N5, rfl⟩)
theorem d11_0 : decode jdk_42_method_79_code 0 = .ok (.aload_n 0, 1) := by decide +kernel
theorem d11_1 : decode jdk_42_method_79_code 1 = .ok (.iload_n 1, 1) := by decide +kernel
theorem d11_2 : decode jdk_42_method_79_code 2 = .ok (.iconst 0, 1) := by decide +kernel
theorem d11_3 : decode jdk_42_method_79_code 3 = .ok (.invokevirtual 633, 3) := by decide +kernel
theorem d11_6 : decode jdk_42_method_79_code 6 = .ok (.ireturn, 1) := by decide +kernel
theorem ef_11a (m : MethodId) (p0 : Addr) : entryFrame m #[(.ref p0), (.int (46 : Int32))] 2 = mkF m 0 #[.val (.ref p0), .val (.int (46 : Int32))] [] := by first | (simp [entryFrame, mkF, argsToLocals, Value.category]; done) | rfl
def Q11a (Z : State) (p0 : Addr) (zc : Int32) (tv : Addr) (kb : ClassId) (b0 : Int32) (b1 : Int32) (b2 : Int32) (b3 : Int32) (b4 : Int32) (b5 : Int32) (h0 : Heap) (n0 : Nat) (v : Option Value) (h : Heap) (L : List Loc) : Prop := v = some (.int (own_f6 b0 b1 b2 b3 b4 b5)) ∧ Fr n0 L ∧ h = h0
set_option maxRecDepth 65536 in
set_option maxHeartbeats 40000000 in
theorem rm11a (l : Launch) (Z : State) (a0 : Array Value) (hw : ∀ d ∈ tables_1, d.before a0 Z = true) (ws : List Jvm.Cond) (p0 : Addr) (zc : Int32) (tv : Addr) (kb : ClassId) (b0 : Int32) (b1 : Int32) (b2 : Int32) (b3 : Int32) (b4 : Int32) (b5 : Int32) (h0 : Heap) (n0 : Nat) (Z0 : n0 ≤ h0.size) (P_Old : Old Z n0 h0) (P_ZS_java_lang_String_COMPACT_STRINGS : Sta Z Z.heap "java/lang/String" "COMPACT_STRINGS" "Z" (.int zc)) (hcs : ¬ zc = 0) (P_E_p0 : Exa Z h0 p0 "java/lang/String") (P_F_p0_coder : Fld Z h0 p0 "java/lang/String" "coder" "B" (.int 0)) (P_F_p0_value : Fld Z h0 p0 "java/lang/String" "value" "[B" (.ref tv)) (P_V_tv : Arv Z h0 tv kb .byte (6 : Int32) [(.int b0), (.int b1), (.int b2), (.int b3), (.int b4), (.int b5)] (.int (0 : Int32))) :
    MetFree l (⟨"java/lang/String", "indexOf", "(I)I"⟩ : MethodName) (head1 (Jvm.Cond.code (⟨"java/lang/String", "indexOf", "(I)I"⟩ : MethodName) jdk_42_method_79_code 2 (some .int) :: ws) ({ frames := 3, cells := 0, slots := 0, locals := 46 } : Room)) (fun a U => a = #[(.ref p0), (.int (46 : Int32))] ∧ Z.Warmed39 U.vm ∧ U.heap = h0) (fun _ _ _ _ _ => True) (fun _ U o U' => ∃ v L, o = .returned v ∧ (Q11a Z p0 zc tv kb b0 b1 b2 b3 b4 b5 h0 n0) v U'.heap L ∧ FrameEnd U o U' L ({ frames := 3, cells := 0, slots := 0, locals := 46 } : Room).cells ({ frames := 3, cells := 0, slots := 0, locals := 46 } : Room).slots) := by
  refine MetFree.of_bodySF (plainFor_of_name pn_3) hisR ?_
  intro p e s m args below meth c s₁ Bd hml0 hP hK
  obtain ⟨rfl, hZ, hh⟩ := hP
  have hx := Bd.exec
  have hby := Bd.bytes
  have hml : c.maxLocals = 2 := hml0
  have hown : s.vm.findClass "java/lang/String" = some m.cls := findClass_of_methodNamed Bd.named
  have hnm := (name_of_methodNamed Bd.named Bd.method).1
  have hlk : meth.locks = false := BodyLoose.notSynchronized Bd
  have X0 : Stand p l e ({ frames := 3, cells := 0, slots := 0, locals := 46 } : Room) s m #[(.ref p0), (.int (46 : Int32))] below meth c s₁ [] 0 0 := Stand.of_body Bd
  have e0 : s₁.heap = h0 := by rw [← hh, Bd.state]; rfl
  have N0 := Fr.nil n0
  show own_G p.tables e below (s₁.setTop (entryFrame m #[(.ref p0), (.int (46 : Int32))] 2)) s ({ frames := 3, cells := 0, slots := 0, locals := 46 } : Room).cells ({ frames := 3, cells := 0, slots := 0, locals := 46 } : Room).slots (Q11a Z p0 zc tv kb b0 b1 b2 b3 b4 b5 h0 n0)
  refine own_go (fun _ k => castTop (ef_11a m p0) k) ?_
  show own_G _ _ _ (s₁.setTop (mkF m 0 #[.val (.ref p0), .val (.int (46 : Int32))] [])) _ _ _ _
  refine own_go (fun _ k => XS.aloadN X0.here hx rfl (hb hby d11_0) rfl rfl k) ?_
  show own_G _ _ _ (s₁.setTop (mkF m 1 #[.val (.ref p0), .val (.int (46 : Int32))] [(.ref p0)])) _ _ _ _
  refine own_go (fun _ k => XS.iloadN X0.here hx rfl (hb hby d11_1) rfl k) ?_
  show own_G _ _ _ (s₁.setTop (mkF m 2 #[.val (.ref p0), .val (.int (46 : Int32))] [(.int (46 : Int32)), (.ref p0)])) _ _ _ _
  refine own_go (fun _ k => XS.iconst X0.here hx rfl (hb hby d11_2) k) ?_
  show own_G _ _ _ (s₁.setTop (mkF m 3 #[.val (.ref p0), .val (.int (46 : Int32))] [(.int (0 : Int32)), (.int (46 : Int32)), (.ref p0)])) _ _ _ _
  obtain ⟨cq1, kq1, q1a, q1b, q1c⟩ := isOf hZ e0 P_E_p0
  obtain ⟨_, _, ⟨T1, L1, k1, n1⟩, -, X1, ⟨Lc1, hQ1, l1, y1, z1⟩, st1⟩ := X0.virtualBack hx (y := (⟨"java/lang/String", "indexOf", "(II)I"⟩ : MethodName)) (z := (⟨"java/lang/String", "indexOf", "(II)I"⟩ : MethodName)) hown (mvT hZ (hw _ (List.mem_of_getElem? (i := 61) rfl))) (mvT hZ (hw _ (List.mem_of_getElem? (i := 62) rfl))) (notFace_of_selects (args := #[]) (mvT hZ (hw _ (List.mem_of_getElem? (i := 64) rfl)))) (mvT hZ (hw _ (List.mem_of_getElem? (i := 64) rfl))) (mvT hZ (hw _ (List.mem_of_getElem? (i := 63) rfl))) (by decide) (backOf (W := 0) (rm12a l Z a0 hw [] p0 zc tv kb b0 b1 b2 b3 b4 b5 h0 n0 Z0 P_Old P_ZS_java_lang_String_COMPACT_STRINGS (by assumption) P_E_p0 P_F_p0_coder P_F_p0_value P_V_tv) hZ (hw _ (List.mem_of_getElem? (i := 65) rfl)) (hw _ (List.mem_of_getElem? (i := 13) rfl)) (by decide) (by decide)) q1a q1c (g := (mkF m 3 #[.val (.ref p0), .val (.int (46 : Int32))] [(.int (0 : Int32)), (.int (46 : Int32)), (.ref p0)])) rfl (by rw [hml]; rfl) (Steps.refl _) (argsL := [(.int (46 : Int32)), (.int (0 : Int32))]) (rest := []) (lenOf pd_3 rfl) rfl (by show 2 * 0 + _ ≤ _; exact Nat.le_of_eq rfl) (hb hby d11_3) (fun _ _ => ⟨rfl, e0, (by decide : 0 + 0 ≤ _), (by decide : 0 + 0 ≤ _)⟩)
  dsimp only [Pt.U, Pt.locs, Pt.cells, Pt.slots] at X1 l1 y1 z1 st1 hQ1
  rw [l1] at X1
  subst y1 z1
  obtain ⟨rfl, Nq1, eh1⟩ := hQ1
  have N1 := Fr.app N0 Nq1
  refine own_tr st1 ?_
  show own_G _ _ _ (T1.setTop (mkF m 6 #[.val (.ref p0), .val (.int (46 : Int32))] [(.int (own_f6 b0 b1 b2 b3 b4 b5))])) _ _ _ _
  exact own_endI X1 hx hlk Bd.returns (hb hby d11_6) (by decide) (by decide) (Q := (Q11a Z p0 zc tv kb b0 b1 b2 b3 b4 b5 h0 n0)) (by rw [eh1]; exact ⟨rfl, N1, rfl⟩)
theorem d10_0 : decode prog_26_method_3_code 0 = .ok (.aload_n 0, 1) := by decide +kernel
theorem d10_1 : decode prog_26_method_3_code 1 = .ok (.getfield 7, 3) := by decide +kernel
theorem d10_4 : decode prog_26_method_3_code 4 = .ok (.bipush 46, 2) := by decide +kernel
theorem d10_6 : decode prog_26_method_3_code 6 = .ok (.invokevirtual 44, 3) := by decide +kernel
theorem d10_9 : decode prog_26_method_3_code 9 = .ok (.ifCond .ge 7, 3) := by decide +kernel
theorem d10_12 : decode prog_26_method_3_code 12 = .ok (.iconst 1, 1) := by decide +kernel
theorem d10_13 : decode prog_26_method_3_code 13 = .ok (.goto 4, 3) := by decide +kernel
theorem d10_16 : decode prog_26_method_3_code 16 = .ok (.iconst 0, 1) := by decide +kernel
theorem d10_17 : decode prog_26_method_3_code 17 = .ok (.ireturn, 1) := by decide +kernel
theorem pd_7 : parseMethodDescriptor "(I)I" = some ⟨[.int], some .int⟩ := by decide +kernel
theorem ef_10a (m : MethodId) (p0 : Addr) : entryFrame m #[(.ref p0)] 1 = mkF m 0 #[.val (.ref p0)] [] := by first | (simp [entryFrame, mkF, argsToLocals, Value.category]; done) | rfl
def Q10a (Z : State) (p0 : Addr) (zc : Int32) (st : Addr) (tv : Addr) (kb : ClassId) (b0 : Int32) (b1 : Int32) (b2 : Int32) (b3 : Int32) (b4 : Int32) (b5 : Int32) (h0 : Heap) (n0 : Nat) (v : Option Value) (h : Heap) (L : List Loc) : Prop := v = some (.int (if (own_f6 b0 b1 b2 b3 b4 b5) < (0 : Int32) then (1 : Int32) else (0 : Int32))) ∧ Fr n0 L ∧ h = h0
set_option maxRecDepth 65536 in
set_option maxHeartbeats 40000000 in
theorem rm10a (l : Launch) (Z : State) (a0 : Array Value) (hw : ∀ d ∈ tables_1, d.before a0 Z = true) (ws : List Jvm.Cond) (p0 : Addr) (zc : Int32) (st : Addr) (tv : Addr) (kb : ClassId) (b0 : Int32) (b1 : Int32) (b2 : Int32) (b3 : Int32) (b4 : Int32) (b5 : Int32) (h0 : Heap) (n0 : Nat) (Z0 : n0 ≤ h0.size) (P_Old : Old Z n0 h0) (P_ZS_java_lang_String_COMPACT_STRINGS : Sta Z Z.heap "java/lang/String" "COMPACT_STRINGS" "Z" (.int zc)) (hcs : ¬ zc = 0) (P_F_p0_canonical : Fld Z h0 p0 "com/example/hence/hence/reasoning/Decimal" "canonical" "Ljava/lang/String;" (.ref st)) (P_E_st : Exa Z h0 st "java/lang/String") (P_F_st_coder : Fld Z h0 st "java/lang/String" "coder" "B" (.int 0)) (P_F_st_value : Fld Z h0 st "java/lang/String" "value" "[B" (.ref tv)) (P_V_tv : Arv Z h0 tv kb .byte (6 : Int32) [(.int b0), (.int b1), (.int b2), (.int b3), (.int b4), (.int b5)] (.int (0 : Int32))) :
    MetFree l (⟨"com/example/hence/hence/reasoning/Decimal", "isInteger", "()Z"⟩ : MethodName) (head1 (Jvm.Cond.code (⟨"com/example/hence/hence/reasoning/Decimal", "isInteger", "()Z"⟩ : MethodName) prog_26_method_3_code 1 (some .boolean) :: ws) ({ frames := 4, cells := 0, slots := 0, locals := 59 } : Room)) (fun a U => a = #[(.ref p0)] ∧ Z.Warmed39 U.vm ∧ U.heap = h0) (fun _ _ _ _ _ => True) (fun _ U o U' => ∃ v L, o = .returned v ∧ (Q10a Z p0 zc st tv kb b0 b1 b2 b3 b4 b5 h0 n0) v U'.heap L ∧ FrameEnd U o U' L ({ frames := 4, cells := 0, slots := 0, locals := 59 } : Room).cells ({ frames := 4, cells := 0, slots := 0, locals := 59 } : Room).slots) := by
  refine MetFree.of_bodySF (plainFor_of_name pn_2) hisR ?_
  intro p e s m args below meth c s₁ Bd hml0 hP hK
  obtain ⟨rfl, hZ, hh⟩ := hP
  have hx := Bd.exec
  have hby := Bd.bytes
  have hml : c.maxLocals = 1 := hml0
  have hown : s.vm.findClass "com/example/hence/hence/reasoning/Decimal" = some m.cls := findClass_of_methodNamed Bd.named
  have hnm := (name_of_methodNamed Bd.named Bd.method).1
  have hlk : meth.locks = false := BodyLoose.notSynchronized Bd
  have X0 : Stand p l e ({ frames := 4, cells := 0, slots := 0, locals := 59 } : Room) s m #[(.ref p0)] below meth c s₁ [] 0 0 := Stand.of_body Bd
  have e0 : s₁.heap = h0 := by rw [← hh, Bd.state]; rfl
  have N0 := Fr.nil n0
  show own_G p.tables e below (s₁.setTop (entryFrame m #[(.ref p0)] 1)) s ({ frames := 4, cells := 0, slots := 0, locals := 59 } : Room).cells ({ frames := 4, cells := 0, slots := 0, locals := 59 } : Room).slots (Q10a Z p0 zc st tv kb b0 b1 b2 b3 b4 b5 h0 n0)
  refine own_go (fun _ k => castTop (ef_10a m p0) k) ?_
  show own_G _ _ _ (s₁.setTop (mkF m 0 #[.val (.ref p0)] [])) _ _ _ _
  refine own_go (fun _ k => XS.aloadN X0.here hx rfl (hb hby d10_0) rfl rfl k) ?_
  show own_G _ _ _ (s₁.setTop (mkF m 1 #[.val (.ref p0)] [(.ref p0)])) _ _ _ _
  obtain ⟨T1, X1, e1, st1⟩ := getF X0 hx hZ hown (host := "") (Or.inl (hw _ (List.mem_of_getElem? (i := 49) rfl))) Via.refl e0 P_F_p0_canonical (g := (mkF m 1 #[.val (.ref p0)] [(.ref p0)])) rfl rfl (hb hby d10_1)
  refine own_go (fun _ k => st1 _ k) ?_
  show own_G _ _ _ (T1.setTop (mkF m 4 #[.val (.ref p0)] [(.ref st)])) _ _ _ _
  refine own_go (fun _ k => XS.bipush X1.here hx rfl (hb hby d10_4) k) ?_
  show own_G _ _ _ (T1.setTop (mkF m 6 #[.val (.ref p0)] [(.int (46 : Int32)), (.ref st)])) _ _ _ _
  obtain ⟨cq2, kq2, q2a, q2b, q2c⟩ := isOf hZ e1 P_E_st
  obtain ⟨_, _, ⟨T2, L2, k2, n2⟩, -, X2, ⟨Lc2, hQ2, l2, y2, z2⟩, st2⟩ := X1.virtualBack hx (y := (⟨"java/lang/String", "indexOf", "(I)I"⟩ : MethodName)) (z := (⟨"java/lang/String", "indexOf", "(I)I"⟩ : MethodName)) hown (mvT hZ (hw _ (List.mem_of_getElem? (i := 56) rfl))) (mvT hZ (hw _ (List.mem_of_getElem? (i := 57) rfl))) (notFace_of_selects (args := #[]) (mvT hZ (hw _ (List.mem_of_getElem? (i := 59) rfl)))) (mvT hZ (hw _ (List.mem_of_getElem? (i := 59) rfl))) (mvT hZ (hw _ (List.mem_of_getElem? (i := 58) rfl))) (by decide) (backOf (W := 0) (rm11a l Z a0 hw [] st zc tv kb b0 b1 b2 b3 b4 b5 h0 n0 Z0 P_Old P_ZS_java_lang_String_COMPACT_STRINGS (by assumption) P_E_st P_F_st_coder P_F_st_value P_V_tv) hZ (hw _ (List.mem_of_getElem? (i := 60) rfl)) (hw _ (List.mem_of_getElem? (i := 13) rfl)) (by decide) (by decide)) q2a q2c (g := (mkF m 6 #[.val (.ref p0)] [(.int (46 : Int32)), (.ref st)])) rfl (by rw [hml]; rfl) (Steps.refl _) (argsL := [(.int (46 : Int32))]) (rest := []) (lenOf pd_7 rfl) rfl (by show 2 * 0 + _ ≤ _; exact Nat.le_of_eq rfl) (hb hby d10_6) (fun _ _ => ⟨rfl, e1, (by decide : 0 + 0 ≤ _), (by decide : 0 + 0 ≤ _)⟩)
  dsimp only [Pt.U, Pt.locs, Pt.cells, Pt.slots] at X2 l2 y2 z2 st2 hQ2
  rw [l2] at X2
  subst y2 z2
  obtain ⟨rfl, Nq2, eh2⟩ := hQ2
  have N2 := Fr.app N0 Nq2
  refine own_tr st2 ?_
  show own_G _ _ _ (T2.setTop (mkF m 9 #[.val (.ref p0)] [(.int (own_f6 b0 b1 b2 b3 b4 b5))])) _ _ _ _
  by_cases hc3 : (own_f6 b0 b1 b2 b3 b4 b5) < (0 : Int32)
  · refine own_go (fun _ k => XS.ifNo X2.here hx rfl (hb hby d10_9) rfl ((if0 _ _).trans (tlt hc3).2.1) k) ?_
    show own_G _ _ _ (T2.setTop (mkF m 12 #[.val (.ref p0)] [])) _ _ _ _
    refine own_go (fun _ k => XS.iconst X2.here hx rfl (hb hby d10_12) k) ?_
    show own_G _ _ _ (T2.setTop (mkF m 13 #[.val (.ref p0)] [(.int (1 : Int32))])) _ _ _ _
    refine own_go (fun _ k => XS.goto X2.here hx rfl (pc0 := 13) (pc' := 17) rfl (hb hby d10_13) (by decide) (by decide) k) ?_
    show own_G _ _ _ (T2.setTop (mkF m 17 #[.val (.ref p0)] [(.int (1 : Int32))])) _ _ _ _
    exact own_endN X2 hx hlk (t := .boolean) Bd.returns (by simp) (hb hby d10_17) (by decide) (by decide) (Q := (Q10a Z p0 zc st tv kb b0 b1 b2 b3 b4 b5 h0 n0)) (by rw [eh2]; exact ⟨(by rw [if_pos hc3]; rfl), N2, rfl⟩)
  · refine own_go (fun _ k => XS.ifYes X2.here hx rfl (pc0 := 9) (pc' := 16) rfl (hb hby d10_9) rfl ((if0 _ _).trans (flt hc3).2.1) (by decide) (by decide) k) ?_
    show own_G _ _ _ (T2.setTop (mkF m 16 #[.val (.ref p0)] [])) _ _ _ _
    refine own_go (fun _ k => XS.iconst X2.here hx rfl (hb hby d10_16) k) ?_
    show own_G _ _ _ (T2.setTop (mkF m 17 #[.val (.ref p0)] [(.int (0 : Int32))])) _ _ _ _
    exact own_endN X2 hx hlk (t := .boolean) Bd.returns (by simp) (hb hby d10_17) (by decide) (by decide) (Q := (Q10a Z p0 zc st tv kb b0 b1 b2 b3 b4 b5 h0 n0)) (by rw [eh2]; exact ⟨(by rw [if_neg hc3]; rfl), N2, rfl⟩)
def Q14b (Z : State) (p0 : Addr) (zc : Int32) (tv : Addr) (kb : ClassId) (b0 : Int32) (b1 : Int32) (b2 : Int32) (h0 : Heap) (n0 : Nat) (v : Option Value) (h : Heap) (L : List Loc) : Prop := v = some (.int (3 : Int32)) ∧ Fr n0 L ∧ h = h0
set_option maxRecDepth 65536 in
set_option maxHeartbeats 40000000 in
theorem rm14b (l : Launch) (Z : State) (a0 : Array Value) (hw : ∀ d ∈ tables_1, d.before a0 Z = true) (ws : List Jvm.Cond) (p0 : Addr) (zc : Int32) (tv : Addr) (kb : ClassId) (b0 : Int32) (b1 : Int32) (b2 : Int32) (h0 : Heap) (n0 : Nat) (Z0 : n0 ≤ h0.size) (P_Old : Old Z n0 h0) (P_ZS_java_lang_String_COMPACT_STRINGS : Sta Z Z.heap "java/lang/String" "COMPACT_STRINGS" "Z" (.int zc)) (hcs : ¬ zc = 0) (P_E_p0 : Exa Z h0 p0 "java/lang/String") (P_F_p0_coder : Fld Z h0 p0 "java/lang/String" "coder" "B" (.int 0)) (P_F_p0_value : Fld Z h0 p0 "java/lang/String" "value" "[B" (.ref tv)) (P_V_tv : Arv Z h0 tv kb .byte (3 : Int32) [(.int b0), (.int b1), (.int b2)] (.int (0 : Int32))) :
    MetFree l (⟨"java/lang/String", "length", "()I"⟩ : MethodName) (head1 (Jvm.Cond.code (⟨"java/lang/String", "length", "()I"⟩ : MethodName) jdk_42_method_54_code 1 (some .int) :: ws) ({ frames := 1, cells := 0, slots := 0, locals := 13 } : Room)) (fun a U => a = #[(.ref p0)] ∧ Z.Warmed39 U.vm ∧ U.heap = h0) (fun _ _ _ _ _ => True) (fun _ U o U' => ∃ v L, o = .returned v ∧ (Q14b Z p0 zc tv kb b0 b1 b2 h0 n0) v U'.heap L ∧ FrameEnd U o U' L ({ frames := 1, cells := 0, slots := 0, locals := 13 } : Room).cells ({ frames := 1, cells := 0, slots := 0, locals := 13 } : Room).slots) := by
  refine MetFree.of_bodySF (plainFor_of_name pn_3) hisR ?_
  intro p e s m args below meth c s₁ Bd hml0 hP hK
  obtain ⟨rfl, hZ, hh⟩ := hP
  have hx := Bd.exec
  have hby := Bd.bytes
  have hml : c.maxLocals = 1 := hml0
  have hown : s.vm.findClass "java/lang/String" = some m.cls := findClass_of_methodNamed Bd.named
  have hnm := (name_of_methodNamed Bd.named Bd.method).1
  have hlk : meth.locks = false := BodyLoose.notSynchronized Bd
  have X0 : Stand p l e ({ frames := 1, cells := 0, slots := 0, locals := 13 } : Room) s m #[(.ref p0)] below meth c s₁ [] 0 0 := Stand.of_body Bd
  have e0 : s₁.heap = h0 := by rw [← hh, Bd.state]; rfl
  have N0 := Fr.nil n0
  show own_G p.tables e below (s₁.setTop (entryFrame m #[(.ref p0)] 1)) s ({ frames := 1, cells := 0, slots := 0, locals := 13 } : Room).cells ({ frames := 1, cells := 0, slots := 0, locals := 13 } : Room).slots (Q14b Z p0 zc tv kb b0 b1 b2 h0 n0)
  refine own_go (fun _ k => castTop (ef_14a m p0) k) ?_
  show own_G _ _ _ (s₁.setTop (mkF m 0 #[.val (.ref p0)] [])) _ _ _ _
  refine own_go (fun _ k => XS.aloadN X0.here hx rfl (hb hby d14_0) rfl rfl k) ?_
  show own_G _ _ _ (s₁.setTop (mkF m 1 #[.val (.ref p0)] [(.ref p0)])) _ _ _ _
  obtain ⟨T1, X1, e1, st1⟩ := getF X0 hx hZ hown (host := "") (Or.inl (hw _ (List.mem_of_getElem? (i := 38) rfl))) Via.refl e0 P_F_p0_value (g := (mkF m 1 #[.val (.ref p0)] [(.ref p0)])) rfl rfl (hb hby d14_1)
  refine own_go (fun _ k => st1 _ k) ?_
  show own_G _ _ _ (T1.setTop (mkF m 4 #[.val (.ref p0)] [(.ref tv)])) _ _ _ _
  obtain ⟨cl2, Ar2, -, S2, Ng2, -, -⟩ := id P_V_tv
  refine own_go (fun _ k => X1.arraylength hx (by rw [e1]; exact Ar2.1) (State.isArrayOf_alike hZ.alike Ar2.2.1) (g := (mkF m 4 #[.val (.ref p0)] [(.ref tv)])) rfl rfl (hb hby d14_4) _ k) ?_
  rw [len_of S2 Ng2]
  show own_G _ _ _ (T1.setTop (mkF m 5 #[.val (.ref p0)] [(.int (3 : Int32))])) _ _ _ _
  refine own_go (fun _ k => XS.aloadN X1.here hx rfl (hb hby d14_5) rfl rfl k) ?_
  show own_G _ _ _ (T1.setTop (mkF m 6 #[.val (.ref p0)] [(.ref p0), (.int (3 : Int32))])) _ _ _ _
  obtain ⟨cq3, kq3, q3a, q3b, q3c⟩ := isOf hZ e1 P_E_p0
  obtain ⟨_, _, ⟨T3, L3, k3, n3⟩, -, X3, ⟨Lc3, hQ3, l3, y3, z3⟩, st3⟩ := X1.virtualBack hx (y := (⟨"java/lang/String", "coder", "()B"⟩ : MethodName)) (z := (⟨"java/lang/String", "coder", "()B"⟩ : MethodName)) hown (mvT hZ (hw _ (List.mem_of_getElem? (i := 76) rfl))) (mvT hZ (hw _ (List.mem_of_getElem? (i := 77) rfl))) (notFace_of_selects (args := #[]) (mvT hZ (hw _ (List.mem_of_getElem? (i := 79) rfl)))) (mvT hZ (hw _ (List.mem_of_getElem? (i := 79) rfl))) (mvT hZ (hw _ (List.mem_of_getElem? (i := 78) rfl))) (by decide) (backOf (W := 1) (rm15 l Z a0 hw [] p0 zc h0 n0 Z0 P_Old P_ZS_java_lang_String_COMPACT_STRINGS (by assumption) P_F_p0_coder) hZ (hw _ (List.mem_of_getElem? (i := 80) rfl)) (hw _ (List.mem_of_getElem? (i := 13) rfl)) (by decide) (by decide)) q3a q3c (g := (mkF m 6 #[.val (.ref p0)] [(.ref p0), (.int (3 : Int32))])) rfl (by rw [hml]; rfl) (Steps.refl _) (argsL := []) (rest := [(.int (3 : Int32))]) (lenOf pd_1 rfl) rfl (by show 2 * 0 + _ ≤ _; exact Nat.le_of_eq rfl) (hb hby d14_6) (fun _ _ => ⟨rfl, e1, (by decide : 0 + 0 ≤ _), (by decide : 0 + 0 ≤ _)⟩)
  dsimp only [Pt.U, Pt.locs, Pt.cells, Pt.slots] at X3 l3 y3 z3 st3 hQ3
  rw [l3] at X3
  subst y3 z3
  obtain ⟨rfl, Nq3, eh3⟩ := hQ3
  have N3 := Fr.app N0 Nq3
  refine own_tr st3 ?_
  show own_G _ _ _ (T3.setTop (mkF m 9 #[.val (.ref p0)] [(.int (0 : Int32)), (.int (3 : Int32))])) _ _ _ _
  refine own_go (fun _ k => XS.ishr X3.here hx rfl (hb hby d14_9) rfl k) ?_
  show own_G _ _ _ (T3.setTop (mkF m 10 #[.val (.ref p0)] [(.int (3 : Int32))])) _ _ _ _
  exact own_endI X3 hx hlk Bd.returns (hb hby d14_10) (by decide) (by decide) (Q := (Q14b Z p0 zc tv kb b0 b1 b2 h0 n0)) (by rw [eh3]; exact ⟨rfl, N3, rfl⟩)
theorem ef_20b (m : MethodId) (tv : Addr) : entryFrame m #[(.ref tv), (.int (46 : Int32)), (.int (0 : Int32)), (.int (3 : Int32))] 6 = mkF m 0 #[.val (.ref tv), .val (.int (46 : Int32)), .val (.int (0 : Int32)), .val (.int (3 : Int32)), .unset, .unset] [] := by first | (simp [entryFrame, mkF, argsToLocals, Value.category]; done) | rfl
def Q20b (Z : State) (tv : Addr) (kb : ClassId) (b0 : Int32) (b1 : Int32) (b2 : Int32) (h0 : Heap) (n0 : Nat) (v : Option Value) (h : Heap) (L : List Loc) : Prop := v = some (.int (own_f3 b0 b1 b2)) ∧ Fr n0 L ∧ h = h0
set_option maxRecDepth 65536 in
set_option maxHeartbeats 40000000 in
theorem rm20b (l : Launch) (Z : State) (a0 : Array Value) (hw : ∀ d ∈ tables_1, d.before a0 Z = true) (ws : List Jvm.Cond) (tv : Addr) (kb : ClassId) (b0 : Int32) (b1 : Int32) (b2 : Int32) (h0 : Heap) (n0 : Nat) (Z0 : n0 ≤ h0.size) (P_V_tv : Arv Z h0 tv kb .byte (3 : Int32) [(.int b0), (.int b1), (.int b2)] (.int (0 : Int32))) :
    MetFree l (⟨"java/lang/StringLatin1", "indexOfChar", "([BIII)I"⟩ : MethodName) (head1 (Jvm.Cond.code (⟨"java/lang/StringLatin1", "indexOfChar", "([BIII)I"⟩ : MethodName) jdk_43_method_23_code 6 (some .int) :: ws) ({ frames := 0, cells := 0, slots := 0, locals := 0 } : Room)) (fun a U => a = #[(.ref tv), (.int (46 : Int32)), (.int (0 : Int32)), (.int (3 : Int32))] ∧ Z.Warmed39 U.vm ∧ U.heap = h0) (fun _ _ _ _ _ => True) (fun _ U o U' => ∃ v L, o = .returned v ∧ (Q20b Z tv kb b0 b1 b2 h0 n0) v U'.heap L ∧ FrameEnd U o U' L ({ frames := 0, cells := 0, slots := 0, locals := 0 } : Room).cells ({ frames := 0, cells := 0, slots := 0, locals := 0 } : Room).slots) := by
  refine MetFree.of_bodySF (plainFor_of_name pn_4) hisR ?_
  intro p e s m args below meth c s₁ Bd hml0 hP hK
  obtain ⟨rfl, hZ, hh⟩ := hP
  have hx := Bd.exec
  have hby := Bd.bytes
  have hml : c.maxLocals = 6 := hml0
  have hown : s.vm.findClass "java/lang/StringLatin1" = some m.cls := findClass_of_methodNamed Bd.named
  have hnm := (name_of_methodNamed Bd.named Bd.method).1
  have hlk : meth.locks = false := BodyLoose.notSynchronized Bd
  have X0 : Stand p l e ({ frames := 0, cells := 0, slots := 0, locals := 0 } : Room) s m #[(.ref tv), (.int (46 : Int32)), (.int (0 : Int32)), (.int (3 : Int32))] below meth c s₁ [] 0 0 := Stand.of_body Bd
  have e0 : s₁.heap = h0 := by rw [← hh, Bd.state]; rfl
  have N0 := Fr.nil n0
  show own_G p.tables e below (s₁.setTop (entryFrame m #[(.ref tv), (.int (46 : Int32)), (.int (0 : Int32)), (.int (3 : Int32))] 6)) s ({ frames := 0, cells := 0, slots := 0, locals := 0 } : Room).cells ({ frames := 0, cells := 0, slots := 0, locals := 0 } : Room).slots (Q20b Z tv kb b0 b1 b2 h0 n0)
  refine own_go (fun _ k => castTop (ef_20b m tv) k) ?_
  show own_G _ _ _ (s₁.setTop (mkF m 0 #[.val (.ref tv), .val (.int (46 : Int32)), .val (.int (0 : Int32)), .val (.int (3 : Int32)), .unset, .unset] [])) _ _ _ _
  refine own_go (fun _ k => XS.iloadN X0.here hx rfl (hb hby d20_0) rfl k) ?_
  show own_G _ _ _ (s₁.setTop (mkF m 1 #[.val (.ref tv), .val (.int (46 : Int32)), .val (.int (0 : Int32)), .val (.int (3 : Int32)), .unset, .unset] [(.int (46 : Int32))])) _ _ _ _
  refine own_go (fun _ k => XS.i2b X0.here hx rfl (hb hby d20_1) rfl k) ?_
  show own_G _ _ _ (s₁.setTop (mkF m 2 #[.val (.ref tv), .val (.int (46 : Int32)), .val (.int (0 : Int32)), .val (.int (3 : Int32)), .unset, .unset] [(.int (46 : Int32))])) _ _ _ _
  refine own_go (fun _ k => XS.istore X0.here hx rfl (hb hby d20_2) rfl (l' := #[.val (.ref tv), .val (.int (46 : Int32)), .val (.int (0 : Int32)), .val (.int (3 : Int32)), .val (.int (46 : Int32)), .unset]) rfl k) ?_
  show own_G _ _ _ (s₁.setTop (mkF m 4 #[.val (.ref tv), .val (.int (46 : Int32)), .val (.int (0 : Int32)), .val (.int (3 : Int32)), .val (.int (46 : Int32)), .unset] [])) _ _ _ _
  refine own_go (fun _ k => XS.iloadN X0.here hx rfl (hb hby d20_4) rfl k) ?_
  show own_G _ _ _ (s₁.setTop (mkF m 5 #[.val (.ref tv), .val (.int (46 : Int32)), .val (.int (0 : Int32)), .val (.int (3 : Int32)), .val (.int (46 : Int32)), .unset] [(.int (0 : Int32))])) _ _ _ _
  refine own_go (fun _ k => XS.istore X0.here hx rfl (hb hby d20_5) rfl (l' := #[.val (.ref tv), .val (.int (46 : Int32)), .val (.int (0 : Int32)), .val (.int (3 : Int32)), .val (.int (46 : Int32)), .val (.int (0 : Int32))]) rfl k) ?_
  show own_G _ _ _ (s₁.setTop (mkF m 7 #[.val (.ref tv), .val (.int (46 : Int32)), .val (.int (0 : Int32)), .val (.int (3 : Int32)), .val (.int (46 : Int32)), .val (.int (0 : Int32))] [])) _ _ _ _
  refine own_go (fun _ k => XS.iload X0.here hx rfl (hb hby d20_7) rfl k) ?_
  show own_G _ _ _ (s₁.setTop (mkF m 9 #[.val (.ref tv), .val (.int (46 : Int32)), .val (.int (0 : Int32)), .val (.int (3 : Int32)), .val (.int (46 : Int32)), .val (.int (0 : Int32))] [(.int (0 : Int32))])) _ _ _ _
  refine own_go (fun _ k => XS.iloadN X0.here hx rfl (hb hby d20_9) rfl k) ?_
  show own_G _ _ _ (s₁.setTop (mkF m 10 #[.val (.ref tv), .val (.int (46 : Int32)), .val (.int (0 : Int32)), .val (.int (3 : Int32)), .val (.int (46 : Int32)), .val (.int (0 : Int32))] [(.int (3 : Int32)), (.int (0 : Int32))])) _ _ _ _
  have hc1 : (0 : Int32) < (3 : Int32) := (by decide)
  refine own_go (fun _ k => XS.icmpNo X0.here hx rfl (hb hby d20_10) rfl (tlt hc1).2.1 k) ?_
  show own_G _ _ _ (s₁.setTop (mkF m 13 #[.val (.ref tv), .val (.int (46 : Int32)), .val (.int (0 : Int32)), .val (.int (3 : Int32)), .val (.int (46 : Int32)), .val (.int (0 : Int32))] [])) _ _ _ _
  refine own_go (fun _ k => XS.aloadN X0.here hx rfl (hb hby d20_13) rfl rfl k) ?_
  show own_G _ _ _ (s₁.setTop (mkF m 14 #[.val (.ref tv), .val (.int (46 : Int32)), .val (.int (0 : Int32)), .val (.int (3 : Int32)), .val (.int (46 : Int32)), .val (.int (0 : Int32))] [(.ref tv)])) _ _ _ _
  refine own_go (fun _ k => XS.iload X0.here hx rfl (hb hby d20_14) rfl k) ?_
  show own_G _ _ _ (s₁.setTop (mkF m 16 #[.val (.ref tv), .val (.int (46 : Int32)), .val (.int (0 : Int32)), .val (.int (3 : Int32)), .val (.int (46 : Int32)), .val (.int (0 : Int32))] [(.int (0 : Int32)), (.ref tv)])) _ _ _ _
  obtain ⟨cl2, Ar2, q2, S2, Ng2, H2, G2⟩ := id P_V_tv
  have in2 : ¬ ((0 : Int32) < 0 ∨ cl2.slots.size ≤ ((0 : Int32)).toNatClampNeg) := inb_of S2 ⟨by decide, by decide⟩
  have at2 : cl2.slots[((0 : Int32)).toNatClampNeg]? = some (.int b0) := H2.at in2 rfl
  refine own_go (fun _ k => X0.baloadBytes hx (j := (0 : Int32)) (v := (.int b0)) (by rw [e0]; exact Ar2.1) (State.isArrayOf_alike hZ.alike Ar2.2.1) Ar2.2.2 in2 at2 (g := (mkF m 16 #[.val (.ref tv), .val (.int (46 : Int32)), .val (.int (0 : Int32)), .val (.int (3 : Int32)), .val (.int (46 : Int32)), .val (.int (0 : Int32))] [(.int (0 : Int32)), (.ref tv)])) rfl rfl (hb hby d20_16) _ k) ?_
  show own_G _ _ _ (s₁.setTop (mkF m 17 #[.val (.ref tv), .val (.int (46 : Int32)), .val (.int (0 : Int32)), .val (.int (3 : Int32)), .val (.int (46 : Int32)), .val (.int (0 : Int32))] [(.int b0)])) _ _ _ _
  refine own_go (fun _ k => XS.iload X0.here hx rfl (hb hby d20_17) rfl k) ?_
  show own_G _ _ _ (s₁.setTop (mkF m 19 #[.val (.ref tv), .val (.int (46 : Int32)), .val (.int (0 : Int32)), .val (.int (3 : Int32)), .val (.int (46 : Int32)), .val (.int (0 : Int32))] [(.int (46 : Int32)), (.int b0)])) _ _ _ _
  by_cases hc3 : b0 = (46 : Int32)
  · refine own_go (fun _ k => XS.icmpNo X0.here hx rfl (hb hby d20_19) rfl (teq hc3).2 k) ?_
    show own_G _ _ _ (s₁.setTop (mkF m 22 #[.val (.ref tv), .val (.int (46 : Int32)), .val (.int (0 : Int32)), .val (.int (3 : Int32)), .val (.int (46 : Int32)), .val (.int (0 : Int32))] [])) _ _ _ _
    refine own_go (fun _ k => XS.iload X0.here hx rfl (hb hby d20_22) rfl k) ?_
    show own_G _ _ _ (s₁.setTop (mkF m 24 #[.val (.ref tv), .val (.int (46 : Int32)), .val (.int (0 : Int32)), .val (.int (3 : Int32)), .val (.int (46 : Int32)), .val (.int (0 : Int32))] [(.int (0 : Int32))])) _ _ _ _
    exact own_endI X0 hx hlk Bd.returns (hb hby d20_24) (by decide) (by decide) (Q := (Q20b Z tv kb b0 b1 b2 h0 n0)) (by rw [e0]; exact ⟨(by unfold own_f3; rw [if_pos hc3]), N0, rfl⟩)
  · refine own_go (fun _ k => XS.icmpYes X0.here hx rfl (pc0 := 19) (pc' := 25) rfl (hb hby d20_19) rfl (feq hc3).2 (by decide) (by decide) k) ?_
    show own_G _ _ _ (s₁.setTop (mkF m 25 #[.val (.ref tv), .val (.int (46 : Int32)), .val (.int (0 : Int32)), .val (.int (3 : Int32)), .val (.int (46 : Int32)), .val (.int (0 : Int32))] [])) _ _ _ _
    refine own_go (fun _ k => XS.iinc X0.here hx rfl (hb hby d20_25) rfl (l' := #[.val (.ref tv), .val (.int (46 : Int32)), .val (.int (0 : Int32)), .val (.int (3 : Int32)), .val (.int (46 : Int32)), .val (.int (1 : Int32))]) rfl k) ?_
    show own_G _ _ _ (s₁.setTop (mkF m 28 #[.val (.ref tv), .val (.int (46 : Int32)), .val (.int (0 : Int32)), .val (.int (3 : Int32)), .val (.int (46 : Int32)), .val (.int (1 : Int32))] [])) _ _ _ _
    refine own_go (fun _ k => XS.goto X0.here hx rfl (pc0 := 28) (pc' := 7) rfl (hb hby d20_28) (by decide) (by decide) k) ?_
    show own_G _ _ _ (s₁.setTop (mkF m 7 #[.val (.ref tv), .val (.int (46 : Int32)), .val (.int (0 : Int32)), .val (.int (3 : Int32)), .val (.int (46 : Int32)), .val (.int (1 : Int32))] [])) _ _ _ _
    refine own_go (fun _ k => XS.iload X0.here hx rfl (hb hby d20_7) rfl k) ?_
    show own_G _ _ _ (s₁.setTop (mkF m 9 #[.val (.ref tv), .val (.int (46 : Int32)), .val (.int (0 : Int32)), .val (.int (3 : Int32)), .val (.int (46 : Int32)), .val (.int (1 : Int32))] [(.int (1 : Int32))])) _ _ _ _
    refine own_go (fun _ k => XS.iloadN X0.here hx rfl (hb hby d20_9) rfl k) ?_
    show own_G _ _ _ (s₁.setTop (mkF m 10 #[.val (.ref tv), .val (.int (46 : Int32)), .val (.int (0 : Int32)), .val (.int (3 : Int32)), .val (.int (46 : Int32)), .val (.int (1 : Int32))] [(.int (3 : Int32)), (.int (1 : Int32))])) _ _ _ _
    have hc4 : (1 : Int32) < (3 : Int32) := (by decide)
    refine own_go (fun _ k => XS.icmpNo X0.here hx rfl (hb hby d20_10) rfl (tlt hc4).2.1 k) ?_
    show own_G _ _ _ (s₁.setTop (mkF m 13 #[.val (.ref tv), .val (.int (46 : Int32)), .val (.int (0 : Int32)), .val (.int (3 : Int32)), .val (.int (46 : Int32)), .val (.int (1 : Int32))] [])) _ _ _ _
    refine own_go (fun _ k => XS.aloadN X0.here hx rfl (hb hby d20_13) rfl rfl k) ?_
    show own_G _ _ _ (s₁.setTop (mkF m 14 #[.val (.ref tv), .val (.int (46 : Int32)), .val (.int (0 : Int32)), .val (.int (3 : Int32)), .val (.int (46 : Int32)), .val (.int (1 : Int32))] [(.ref tv)])) _ _ _ _
    refine own_go (fun _ k => XS.iload X0.here hx rfl (hb hby d20_14) rfl k) ?_
    show own_G _ _ _ (s₁.setTop (mkF m 16 #[.val (.ref tv), .val (.int (46 : Int32)), .val (.int (0 : Int32)), .val (.int (3 : Int32)), .val (.int (46 : Int32)), .val (.int (1 : Int32))] [(.int (1 : Int32)), (.ref tv)])) _ _ _ _
    obtain ⟨cl5, Ar5, q5, S5, Ng5, H5, G5⟩ := id P_V_tv
    have in5 : ¬ ((1 : Int32) < 0 ∨ cl5.slots.size ≤ ((1 : Int32)).toNatClampNeg) := inb_of S5 ⟨by decide, by decide⟩
    have at5 : cl5.slots[((1 : Int32)).toNatClampNeg]? = some (.int b1) := H5.at in5 rfl
    refine own_go (fun _ k => X0.baloadBytes hx (j := (1 : Int32)) (v := (.int b1)) (by rw [e0]; exact Ar5.1) (State.isArrayOf_alike hZ.alike Ar5.2.1) Ar5.2.2 in5 at5 (g := (mkF m 16 #[.val (.ref tv), .val (.int (46 : Int32)), .val (.int (0 : Int32)), .val (.int (3 : Int32)), .val (.int (46 : Int32)), .val (.int (1 : Int32))] [(.int (1 : Int32)), (.ref tv)])) rfl rfl (hb hby d20_16) _ k) ?_
    show own_G _ _ _ (s₁.setTop (mkF m 17 #[.val (.ref tv), .val (.int (46 : Int32)), .val (.int (0 : Int32)), .val (.int (3 : Int32)), .val (.int (46 : Int32)), .val (.int (1 : Int32))] [(.int b1)])) _ _ _ _
    refine own_go (fun _ k => XS.iload X0.here hx rfl (hb hby d20_17) rfl k) ?_
    show own_G _ _ _ (s₁.setTop (mkF m 19 #[.val (.ref tv), .val (.int (46 : Int32)), .val (.int (0 : Int32)), .val (.int (3 : Int32)), .val (.int (46 : Int32)), .val (.int (1 : Int32))] [(.int (46 : Int32)), (.int b1)])) _ _ _ _
    by_cases hc6 : b1 = (46 : Int32)
    · refine own_go (fun _ k => XS.icmpNo X0.here hx rfl (hb hby d20_19) rfl (teq hc6).2 k) ?_
      show own_G _ _ _ (s₁.setTop (mkF m 22 #[.val (.ref tv), .val (.int (46 : Int32)), .val (.int (0 : Int32)), .val (.int (3 : Int32)), .val (.int (46 : Int32)), .val (.int (1 : Int32))] [])) _ _ _ _
      refine own_go (fun _ k => XS.iload X0.here hx rfl (hb hby d20_22) rfl k) ?_
      show own_G _ _ _ (s₁.setTop (mkF m 24 #[.val (.ref tv), .val (.int (46 : Int32)), .val (.int (0 : Int32)), .val (.int (3 : Int32)), .val (.int (46 : Int32)), .val (.int (1 : Int32))] [(.int (1 : Int32))])) _ _ _ _
      exact own_endI X0 hx hlk Bd.returns (hb hby d20_24) (by decide) (by decide) (Q := (Q20b Z tv kb b0 b1 b2 h0 n0)) (by rw [e0]; exact ⟨(by unfold own_f3; rw [if_neg hc3, if_pos hc6]), N0, rfl⟩)
    · refine own_go (fun _ k => XS.icmpYes X0.here hx rfl (pc0 := 19) (pc' := 25) rfl (hb hby d20_19) rfl (feq hc6).2 (by decide) (by decide) k) ?_
      show own_G _ _ _ (s₁.setTop (mkF m 25 #[.val (.ref tv), .val (.int (46 : Int32)), .val (.int (0 : Int32)), .val (.int (3 : Int32)), .val (.int (46 : Int32)), .val (.int (1 : Int32))] [])) _ _ _ _
      refine own_go (fun _ k => XS.iinc X0.here hx rfl (hb hby d20_25) rfl (l' := #[.val (.ref tv), .val (.int (46 : Int32)), .val (.int (0 : Int32)), .val (.int (3 : Int32)), .val (.int (46 : Int32)), .val (.int (2 : Int32))]) rfl k) ?_
      show own_G _ _ _ (s₁.setTop (mkF m 28 #[.val (.ref tv), .val (.int (46 : Int32)), .val (.int (0 : Int32)), .val (.int (3 : Int32)), .val (.int (46 : Int32)), .val (.int (2 : Int32))] [])) _ _ _ _
      refine own_go (fun _ k => XS.goto X0.here hx rfl (pc0 := 28) (pc' := 7) rfl (hb hby d20_28) (by decide) (by decide) k) ?_
      show own_G _ _ _ (s₁.setTop (mkF m 7 #[.val (.ref tv), .val (.int (46 : Int32)), .val (.int (0 : Int32)), .val (.int (3 : Int32)), .val (.int (46 : Int32)), .val (.int (2 : Int32))] [])) _ _ _ _
      refine own_go (fun _ k => XS.iload X0.here hx rfl (hb hby d20_7) rfl k) ?_
      show own_G _ _ _ (s₁.setTop (mkF m 9 #[.val (.ref tv), .val (.int (46 : Int32)), .val (.int (0 : Int32)), .val (.int (3 : Int32)), .val (.int (46 : Int32)), .val (.int (2 : Int32))] [(.int (2 : Int32))])) _ _ _ _
      refine own_go (fun _ k => XS.iloadN X0.here hx rfl (hb hby d20_9) rfl k) ?_
      show own_G _ _ _ (s₁.setTop (mkF m 10 #[.val (.ref tv), .val (.int (46 : Int32)), .val (.int (0 : Int32)), .val (.int (3 : Int32)), .val (.int (46 : Int32)), .val (.int (2 : Int32))] [(.int (3 : Int32)), (.int (2 : Int32))])) _ _ _ _
      have hc7 : (2 : Int32) < (3 : Int32) := (by decide)
      refine own_go (fun _ k => XS.icmpNo X0.here hx rfl (hb hby d20_10) rfl (tlt hc7).2.1 k) ?_
      show own_G _ _ _ (s₁.setTop (mkF m 13 #[.val (.ref tv), .val (.int (46 : Int32)), .val (.int (0 : Int32)), .val (.int (3 : Int32)), .val (.int (46 : Int32)), .val (.int (2 : Int32))] [])) _ _ _ _
      refine own_go (fun _ k => XS.aloadN X0.here hx rfl (hb hby d20_13) rfl rfl k) ?_
      show own_G _ _ _ (s₁.setTop (mkF m 14 #[.val (.ref tv), .val (.int (46 : Int32)), .val (.int (0 : Int32)), .val (.int (3 : Int32)), .val (.int (46 : Int32)), .val (.int (2 : Int32))] [(.ref tv)])) _ _ _ _
      refine own_go (fun _ k => XS.iload X0.here hx rfl (hb hby d20_14) rfl k) ?_
      show own_G _ _ _ (s₁.setTop (mkF m 16 #[.val (.ref tv), .val (.int (46 : Int32)), .val (.int (0 : Int32)), .val (.int (3 : Int32)), .val (.int (46 : Int32)), .val (.int (2 : Int32))] [(.int (2 : Int32)), (.ref tv)])) _ _ _ _
      obtain ⟨cl8, Ar8, q8, S8, Ng8, H8, G8⟩ := id P_V_tv
      have in8 : ¬ ((2 : Int32) < 0 ∨ cl8.slots.size ≤ ((2 : Int32)).toNatClampNeg) := inb_of S8 ⟨by decide, by decide⟩
      have at8 : cl8.slots[((2 : Int32)).toNatClampNeg]? = some (.int b2) := H8.at in8 rfl
      refine own_go (fun _ k => X0.baloadBytes hx (j := (2 : Int32)) (v := (.int b2)) (by rw [e0]; exact Ar8.1) (State.isArrayOf_alike hZ.alike Ar8.2.1) Ar8.2.2 in8 at8 (g := (mkF m 16 #[.val (.ref tv), .val (.int (46 : Int32)), .val (.int (0 : Int32)), .val (.int (3 : Int32)), .val (.int (46 : Int32)), .val (.int (2 : Int32))] [(.int (2 : Int32)), (.ref tv)])) rfl rfl (hb hby d20_16) _ k) ?_
      show own_G _ _ _ (s₁.setTop (mkF m 17 #[.val (.ref tv), .val (.int (46 : Int32)), .val (.int (0 : Int32)), .val (.int (3 : Int32)), .val (.int (46 : Int32)), .val (.int (2 : Int32))] [(.int b2)])) _ _ _ _
      refine own_go (fun _ k => XS.iload X0.here hx rfl (hb hby d20_17) rfl k) ?_
      show own_G _ _ _ (s₁.setTop (mkF m 19 #[.val (.ref tv), .val (.int (46 : Int32)), .val (.int (0 : Int32)), .val (.int (3 : Int32)), .val (.int (46 : Int32)), .val (.int (2 : Int32))] [(.int (46 : Int32)), (.int b2)])) _ _ _ _
      by_cases hc9 : b2 = (46 : Int32)
      · refine own_go (fun _ k => XS.icmpNo X0.here hx rfl (hb hby d20_19) rfl (teq hc9).2 k) ?_
        show own_G _ _ _ (s₁.setTop (mkF m 22 #[.val (.ref tv), .val (.int (46 : Int32)), .val (.int (0 : Int32)), .val (.int (3 : Int32)), .val (.int (46 : Int32)), .val (.int (2 : Int32))] [])) _ _ _ _
        refine own_go (fun _ k => XS.iload X0.here hx rfl (hb hby d20_22) rfl k) ?_
        show own_G _ _ _ (s₁.setTop (mkF m 24 #[.val (.ref tv), .val (.int (46 : Int32)), .val (.int (0 : Int32)), .val (.int (3 : Int32)), .val (.int (46 : Int32)), .val (.int (2 : Int32))] [(.int (2 : Int32))])) _ _ _ _
        exact own_endI X0 hx hlk Bd.returns (hb hby d20_24) (by decide) (by decide) (Q := (Q20b Z tv kb b0 b1 b2 h0 n0)) (by rw [e0]; exact ⟨(by unfold own_f3; rw [if_neg hc3, if_neg hc6, if_pos hc9]), N0, rfl⟩)
      · refine own_go (fun _ k => XS.icmpYes X0.here hx rfl (pc0 := 19) (pc' := 25) rfl (hb hby d20_19) rfl (feq hc9).2 (by decide) (by decide) k) ?_
        show own_G _ _ _ (s₁.setTop (mkF m 25 #[.val (.ref tv), .val (.int (46 : Int32)), .val (.int (0 : Int32)), .val (.int (3 : Int32)), .val (.int (46 : Int32)), .val (.int (2 : Int32))] [])) _ _ _ _
        refine own_go (fun _ k => XS.iinc X0.here hx rfl (hb hby d20_25) rfl (l' := #[.val (.ref tv), .val (.int (46 : Int32)), .val (.int (0 : Int32)), .val (.int (3 : Int32)), .val (.int (46 : Int32)), .val (.int (3 : Int32))]) rfl k) ?_
        show own_G _ _ _ (s₁.setTop (mkF m 28 #[.val (.ref tv), .val (.int (46 : Int32)), .val (.int (0 : Int32)), .val (.int (3 : Int32)), .val (.int (46 : Int32)), .val (.int (3 : Int32))] [])) _ _ _ _
        refine own_go (fun _ k => XS.goto X0.here hx rfl (pc0 := 28) (pc' := 7) rfl (hb hby d20_28) (by decide) (by decide) k) ?_
        show own_G _ _ _ (s₁.setTop (mkF m 7 #[.val (.ref tv), .val (.int (46 : Int32)), .val (.int (0 : Int32)), .val (.int (3 : Int32)), .val (.int (46 : Int32)), .val (.int (3 : Int32))] [])) _ _ _ _
        refine own_go (fun _ k => XS.iload X0.here hx rfl (hb hby d20_7) rfl k) ?_
        show own_G _ _ _ (s₁.setTop (mkF m 9 #[.val (.ref tv), .val (.int (46 : Int32)), .val (.int (0 : Int32)), .val (.int (3 : Int32)), .val (.int (46 : Int32)), .val (.int (3 : Int32))] [(.int (3 : Int32))])) _ _ _ _
        refine own_go (fun _ k => XS.iloadN X0.here hx rfl (hb hby d20_9) rfl k) ?_
        show own_G _ _ _ (s₁.setTop (mkF m 10 #[.val (.ref tv), .val (.int (46 : Int32)), .val (.int (0 : Int32)), .val (.int (3 : Int32)), .val (.int (46 : Int32)), .val (.int (3 : Int32))] [(.int (3 : Int32)), (.int (3 : Int32))])) _ _ _ _
        have hc10 : ¬ ((3 : Int32) < (3 : Int32)) := (by decide)
        refine own_go (fun _ k => XS.icmpYes X0.here hx rfl (pc0 := 10) (pc' := 31) rfl (hb hby d20_10) rfl (flt hc10).2.1 (by decide) (by decide) k) ?_
        show own_G _ _ _ (s₁.setTop (mkF m 31 #[.val (.ref tv), .val (.int (46 : Int32)), .val (.int (0 : Int32)), .val (.int (3 : Int32)), .val (.int (46 : Int32)), .val (.int (3 : Int32))] [])) _ _ _ _
        refine own_go (fun _ k => XS.iconst X0.here hx rfl (hb hby d20_31) k) ?_
        show own_G _ _ _ (s₁.setTop (mkF m 32 #[.val (.ref tv), .val (.int (46 : Int32)), .val (.int (0 : Int32)), .val (.int (3 : Int32)), .val (.int (46 : Int32)), .val (.int (3 : Int32))] [(.int (-1 : Int32))])) _ _ _ _
        exact own_endI X0 hx hlk Bd.returns (hb hby d20_32) (by decide) (by decide) (Q := (Q20b Z tv kb b0 b1 b2 h0 n0)) (by rw [e0]; exact ⟨(by unfold own_f3; rw [if_neg hc3, if_neg hc6, if_neg hc9]), N0, rfl⟩)
theorem ef_16b (m : MethodId) (tv : Addr) : entryFrame m #[(.ref tv), (.int (46 : Int32)), (.int (0 : Int32)), (.int (3 : Int32))] 4 = mkF m 0 #[.val (.ref tv), .val (.int (46 : Int32)), .val (.int (0 : Int32)), .val (.int (3 : Int32))] [] := by first | (simp [entryFrame, mkF, argsToLocals, Value.category]; done) | rfl
def Q16b (Z : State) (tv : Addr) (kb : ClassId) (b0 : Int32) (b1 : Int32) (b2 : Int32) (h0 : Heap) (n0 : Nat) (v : Option Value) (h : Heap) (L : List Loc) : Prop := v = some (.int (own_f3 b0 b1 b2)) ∧ Fr n0 L ∧ h = h0
set_option maxRecDepth 65536 in
set_option maxHeartbeats 40000000 in
theorem rm16b (l : Launch) (Z : State) (a0 : Array Value) (hw : ∀ d ∈ tables_1, d.before a0 Z = true) (ws : List Jvm.Cond) (tv : Addr) (kb : ClassId) (b0 : Int32) (b1 : Int32) (b2 : Int32) (h0 : Heap) (n0 : Nat) (Z0 : n0 ≤ h0.size) (P_V_tv : Arv Z h0 tv kb .byte (3 : Int32) [(.int b0), (.int b1), (.int b2)] (.int (0 : Int32))) :
    MetFree l (⟨"java/lang/StringLatin1", "indexOf", "([BIII)I"⟩ : MethodName) (head1 (Jvm.Cond.code (⟨"java/lang/StringLatin1", "indexOf", "([BIII)I"⟩ : MethodName) jdk_43_method_22_code 4 (some .int) :: ws) ({ frames := 1, cells := 0, slots := 0, locals := 17 } : Room)) (fun a U => a = #[(.ref tv), (.int (46 : Int32)), (.int (0 : Int32)), (.int (3 : Int32))] ∧ Z.Warmed39 U.vm ∧ U.heap = h0) (fun _ _ _ _ _ => True) (fun _ U o U' => ∃ v L, o = .returned v ∧ (Q16b Z tv kb b0 b1 b2 h0 n0) v U'.heap L ∧ FrameEnd U o U' L ({ frames := 1, cells := 0, slots := 0, locals := 17 } : Room).cells ({ frames := 1, cells := 0, slots := 0, locals := 17 } : Room).slots) := by
  refine MetFree.of_bodySF (plainFor_of_name pn_4) hisR ?_
  intro p e s m args below meth c s₁ Bd hml0 hP hK
  obtain ⟨rfl, hZ, hh⟩ := hP
  have hx := Bd.exec
  have hby := Bd.bytes
  have hml : c.maxLocals = 4 := hml0
  have hown : s.vm.findClass "java/lang/StringLatin1" = some m.cls := findClass_of_methodNamed Bd.named
  have hnm := (name_of_methodNamed Bd.named Bd.method).1
  have hlk : meth.locks = false := BodyLoose.notSynchronized Bd
  have X0 : Stand p l e ({ frames := 1, cells := 0, slots := 0, locals := 17 } : Room) s m #[(.ref tv), (.int (46 : Int32)), (.int (0 : Int32)), (.int (3 : Int32))] below meth c s₁ [] 0 0 := Stand.of_body Bd
  have e0 : s₁.heap = h0 := by rw [← hh, Bd.state]; rfl
  have N0 := Fr.nil n0
  show own_G p.tables e below (s₁.setTop (entryFrame m #[(.ref tv), (.int (46 : Int32)), (.int (0 : Int32)), (.int (3 : Int32))] 4)) s ({ frames := 1, cells := 0, slots := 0, locals := 17 } : Room).cells ({ frames := 1, cells := 0, slots := 0, locals := 17 } : Room).slots (Q16b Z tv kb b0 b1 b2 h0 n0)
  refine own_go (fun _ k => castTop (ef_16b m tv) k) ?_
  show own_G _ _ _ (s₁.setTop (mkF m 0 #[.val (.ref tv), .val (.int (46 : Int32)), .val (.int (0 : Int32)), .val (.int (3 : Int32))] [])) _ _ _ _
  refine own_go (fun _ k => XS.iloadN X0.here hx rfl (hb hby d16_0) rfl k) ?_
  show own_G _ _ _ (s₁.setTop (mkF m 1 #[.val (.ref tv), .val (.int (46 : Int32)), .val (.int (0 : Int32)), .val (.int (3 : Int32))] [(.int (46 : Int32))])) _ _ _ _
  obtain ⟨_, _, ⟨T1, L1, k1, n1⟩, -, X1, ⟨Lc1, hQ1, l1, y1, z1⟩, st1⟩ := Jvm.LawKit.callS X0 hx (y := (⟨"java/lang/StringLatin1", "canEncode", "(I)Z"⟩ : MethodName)) hown (mvT hZ (hw _ (List.mem_of_getElem? (i := 85) rfl))) (mvT hZ (hw _ (List.mem_of_getElem? (i := 86) rfl))) (mvT hZ (hw _ (List.mem_of_getElem? (i := 83) rfl))) (mvT hZ (hw _ (List.mem_of_getElem? (i := 87) rfl))) (by decide) (backOf (W := 0) (rm17 l Z a0 hw [] (46 : Int32) h0 n0) hZ (hw _ (List.mem_of_getElem? (i := 87) rfl)) (hw _ (List.mem_of_getElem? (i := 83) rfl)) (by decide) (by decide)) (g := (mkF m 1 #[.val (.ref tv), .val (.int (46 : Int32)), .val (.int (0 : Int32)), .val (.int (3 : Int32))] [(.int (46 : Int32))])) rfl (by rw [hml]; rfl) (argsL := [(.int (46 : Int32))]) (rest := []) (lenOf pd_2 rfl) rfl (by show 2 * 0 + _ ≤ _; exact Nat.le_of_eq rfl) (hb hby d16_1) (fun _ _ => ⟨rfl, e0, (by decide : 0 + 0 ≤ _), (by decide : 0 + 0 ≤ _)⟩)
  dsimp only [Pt.U, Pt.locs, Pt.cells, Pt.slots] at X1 l1 y1 z1 st1 hQ1
  rw [l1] at X1
  subst y1 z1
  obtain ⟨rfl, Nq1, eh1⟩ := hQ1
  have N1 := Fr.app N0 Nq1
  refine own_go (fun _ k => st1 _ k) ?_
  show own_G _ _ _ (T1.setTop (mkF m 4 #[.val (.ref tv), .val (.int (46 : Int32)), .val (.int (0 : Int32)), .val (.int (3 : Int32))] [(.int (own_can (46 : Int32)))])) _ _ _ _
  have hc2 : ¬ ((own_can (46 : Int32)) = (0 : Int32)) := (by decide)
  refine own_go (fun _ k => XS.ifYes X1.here hx rfl (pc0 := 4) (pc' := 9) rfl (hb hby d16_4) rfl ((if0 _ _).trans (feq hc2).2) (by decide) (by decide) k) ?_
  show own_G _ _ _ (T1.setTop (mkF m 9 #[.val (.ref tv), .val (.int (46 : Int32)), .val (.int (0 : Int32)), .val (.int (3 : Int32))] [])) _ _ _ _
  refine own_go (fun _ k => XS.iloadN X1.here hx rfl (hb hby d16_9) rfl k) ?_
  show own_G _ _ _ (T1.setTop (mkF m 10 #[.val (.ref tv), .val (.int (46 : Int32)), .val (.int (0 : Int32)), .val (.int (3 : Int32))] [(.int (0 : Int32))])) _ _ _ _
  refine own_go (fun _ k => XS.iconst X1.here hx rfl (hb hby d16_10) k) ?_
  show own_G _ _ _ (T1.setTop (mkF m 11 #[.val (.ref tv), .val (.int (46 : Int32)), .val (.int (0 : Int32)), .val (.int (3 : Int32))] [(.int (0 : Int32)), (.int (0 : Int32))])) _ _ _ _
  obtain ⟨_, _, ⟨T3, L3, k3, n3⟩, -, X3, ⟨Lc3, hQ3, l3, y3, z3⟩, st3⟩ := Jvm.LawKit.callS X1 hx (y := (⟨"java/lang/Math", "max", "(II)I"⟩ : MethodName)) hown (mvT hZ (hw _ (List.mem_of_getElem? (i := 88) rfl))) (mvT hZ (hw _ (List.mem_of_getElem? (i := 89) rfl))) (mvT hZ (hw _ (List.mem_of_getElem? (i := 90) rfl))) (mvT hZ (hw _ (List.mem_of_getElem? (i := 91) rfl))) (by decide) (backOf (W := 0) (rm18 l Z a0 hw [] (0 : Int32) (0 : Int32) h0 n0) hZ (hw _ (List.mem_of_getElem? (i := 91) rfl)) (hw _ (List.mem_of_getElem? (i := 90) rfl)) (by decide) (by decide)) (g := (mkF m 11 #[.val (.ref tv), .val (.int (46 : Int32)), .val (.int (0 : Int32)), .val (.int (3 : Int32))] [(.int (0 : Int32)), (.int (0 : Int32))])) rfl (by rw [hml]; rfl) (argsL := [(.int (0 : Int32)), (.int (0 : Int32))]) (rest := []) (lenOf pd_3 rfl) rfl (by show 2 * 0 + _ ≤ _; exact Nat.le_of_eq rfl) (hb hby d16_11) (fun _ _ => ⟨rfl, eh1, (by decide : 0 + 0 ≤ _), (by decide : 0 + 0 ≤ _)⟩)
  dsimp only [Pt.U, Pt.locs, Pt.cells, Pt.slots] at X3 l3 y3 z3 st3 hQ3
  rw [l3] at X3
  subst y3 z3
  obtain ⟨rfl, Nq3, eh3⟩ := hQ3
  have N3 := Fr.app N1 Nq3
  refine own_go (fun _ k => st3 _ k) ?_
  show own_G _ _ _ (T3.setTop (mkF m 14 #[.val (.ref tv), .val (.int (46 : Int32)), .val (.int (0 : Int32)), .val (.int (3 : Int32))] [(.int (0 : Int32))])) _ _ _ _
  refine own_go (fun _ k => XS.istoreN X3.here hx rfl (hb hby d16_14) rfl (l' := #[.val (.ref tv), .val (.int (46 : Int32)), .val (.int (0 : Int32)), .val (.int (3 : Int32))]) rfl k) ?_
  show own_G _ _ _ (T3.setTop (mkF m 15 #[.val (.ref tv), .val (.int (46 : Int32)), .val (.int (0 : Int32)), .val (.int (3 : Int32))] [])) _ _ _ _
  refine own_go (fun _ k => XS.iloadN X3.here hx rfl (hb hby d16_15) rfl k) ?_
  show own_G _ _ _ (T3.setTop (mkF m 16 #[.val (.ref tv), .val (.int (46 : Int32)), .val (.int (0 : Int32)), .val (.int (3 : Int32))] [(.int (3 : Int32))])) _ _ _ _
  refine own_go (fun _ k => XS.aloadN X3.here hx rfl (hb hby d16_16) rfl rfl k) ?_
  show own_G _ _ _ (T3.setTop (mkF m 17 #[.val (.ref tv), .val (.int (46 : Int32)), .val (.int (0 : Int32)), .val (.int (3 : Int32))] [(.ref tv), (.int (3 : Int32))])) _ _ _ _
  obtain ⟨cl4, Ar4, -, S4, Ng4, -, -⟩ := id P_V_tv
  refine own_go (fun _ k => X3.arraylength hx (by rw [eh3]; exact Ar4.1) (State.isArrayOf_alike hZ.alike Ar4.2.1) (g := (mkF m 17 #[.val (.ref tv), .val (.int (46 : Int32)), .val (.int (0 : Int32)), .val (.int (3 : Int32))] [(.ref tv), (.int (3 : Int32))])) rfl rfl (hb hby d16_17) _ k) ?_
  rw [len_of S4 Ng4]
  show own_G _ _ _ (T3.setTop (mkF m 18 #[.val (.ref tv), .val (.int (46 : Int32)), .val (.int (0 : Int32)), .val (.int (3 : Int32))] [(.int (3 : Int32)), (.int (3 : Int32))])) _ _ _ _
  obtain ⟨_, _, ⟨T5, L5, k5, n5⟩, -, X5, ⟨Lc5, hQ5, l5, y5, z5⟩, st5⟩ := Jvm.LawKit.callS X3 hx (y := (⟨"java/lang/Math", "min", "(II)I"⟩ : MethodName)) hown (mvT hZ (hw _ (List.mem_of_getElem? (i := 92) rfl))) (mvT hZ (hw _ (List.mem_of_getElem? (i := 93) rfl))) (mvT hZ (hw _ (List.mem_of_getElem? (i := 90) rfl))) (mvT hZ (hw _ (List.mem_of_getElem? (i := 94) rfl))) (by decide) (backOf (W := 0) (rm19 l Z a0 hw [] (3 : Int32) (3 : Int32) h0 n0) hZ (hw _ (List.mem_of_getElem? (i := 94) rfl)) (hw _ (List.mem_of_getElem? (i := 90) rfl)) (by decide) (by decide)) (g := (mkF m 18 #[.val (.ref tv), .val (.int (46 : Int32)), .val (.int (0 : Int32)), .val (.int (3 : Int32))] [(.int (3 : Int32)), (.int (3 : Int32))])) rfl (by rw [hml]; rfl) (argsL := [(.int (3 : Int32)), (.int (3 : Int32))]) (rest := []) (lenOf pd_3 rfl) rfl (by show 2 * 0 + _ ≤ _; exact Nat.le_of_eq rfl) (hb hby d16_18) (fun _ _ => ⟨rfl, eh3, (by decide : 0 + 0 ≤ _), (by decide : 0 + 0 ≤ _)⟩)
  dsimp only [Pt.U, Pt.locs, Pt.cells, Pt.slots] at X5 l5 y5 z5 st5 hQ5
  rw [l5] at X5
  subst y5 z5
  obtain ⟨rfl, Nq5, eh5⟩ := hQ5
  have N5 := Fr.app N3 Nq5
  refine own_go (fun _ k => st5 _ k) ?_
  show own_G _ _ _ (T5.setTop (mkF m 21 #[.val (.ref tv), .val (.int (46 : Int32)), .val (.int (0 : Int32)), .val (.int (3 : Int32))] [(.int (3 : Int32))])) _ _ _ _
  refine own_go (fun _ k => XS.istoreN X5.here hx rfl (hb hby d16_21) rfl (l' := #[.val (.ref tv), .val (.int (46 : Int32)), .val (.int (0 : Int32)), .val (.int (3 : Int32))]) rfl k) ?_
  show own_G _ _ _ (T5.setTop (mkF m 22 #[.val (.ref tv), .val (.int (46 : Int32)), .val (.int (0 : Int32)), .val (.int (3 : Int32))] [])) _ _ _ _
  refine own_go (fun _ k => XS.iloadN X5.here hx rfl (hb hby d16_22) rfl k) ?_
  show own_G _ _ _ (T5.setTop (mkF m 23 #[.val (.ref tv), .val (.int (46 : Int32)), .val (.int (0 : Int32)), .val (.int (3 : Int32))] [(.int (0 : Int32))])) _ _ _ _
  refine own_go (fun _ k => XS.iloadN X5.here hx rfl (hb hby d16_23) rfl k) ?_
  show own_G _ _ _ (T5.setTop (mkF m 24 #[.val (.ref tv), .val (.int (46 : Int32)), .val (.int (0 : Int32)), .val (.int (3 : Int32))] [(.int (3 : Int32)), (.int (0 : Int32))])) _ _ _ _
  have hc6 : (0 : Int32) < (3 : Int32) := (by decide)
  refine own_go (fun _ k => XS.icmpYes X5.here hx rfl (pc0 := 24) (pc' := 29) rfl (hb hby d16_24) rfl (tlt hc6).1 (by decide) (by decide) k) ?_
  show own_G _ _ _ (T5.setTop (mkF m 29 #[.val (.ref tv), .val (.int (46 : Int32)), .val (.int (0 : Int32)), .val (.int (3 : Int32))] [])) _ _ _ _
  refine own_go (fun _ k => XS.aloadN X5.here hx rfl (hb hby d16_29) rfl rfl k) ?_
  show own_G _ _ _ (T5.setTop (mkF m 30 #[.val (.ref tv), .val (.int (46 : Int32)), .val (.int (0 : Int32)), .val (.int (3 : Int32))] [(.ref tv)])) _ _ _ _
  refine own_go (fun _ k => XS.iloadN X5.here hx rfl (hb hby d16_30) rfl k) ?_
  show own_G _ _ _ (T5.setTop (mkF m 31 #[.val (.ref tv), .val (.int (46 : Int32)), .val (.int (0 : Int32)), .val (.int (3 : Int32))] [(.int (46 : Int32)), (.ref tv)])) _ _ _ _
  refine own_go (fun _ k => XS.iloadN X5.here hx rfl (hb hby d16_31) rfl k) ?_
  show own_G _ _ _ (T5.setTop (mkF m 32 #[.val (.ref tv), .val (.int (46 : Int32)), .val (.int (0 : Int32)), .val (.int (3 : Int32))] [(.int (0 : Int32)), (.int (46 : Int32)), (.ref tv)])) _ _ _ _
  refine own_go (fun _ k => XS.iloadN X5.here hx rfl (hb hby d16_32) rfl k) ?_
  show own_G _ _ _ (T5.setTop (mkF m 33 #[.val (.ref tv), .val (.int (46 : Int32)), .val (.int (0 : Int32)), .val (.int (3 : Int32))] [(.int (3 : Int32)), (.int (0 : Int32)), (.int (46 : Int32)), (.ref tv)])) _ _ _ _
  obtain ⟨_, _, ⟨T7, L7, k7, n7⟩, -, X7, ⟨Lc7, hQ7, l7, y7, z7⟩, st7⟩ := Jvm.LawKit.callS X5 hx (y := (⟨"java/lang/StringLatin1", "indexOfChar", "([BIII)I"⟩ : MethodName)) hown (mvT hZ (hw _ (List.mem_of_getElem? (i := 95) rfl))) (mvT hZ (hw _ (List.mem_of_getElem? (i := 96) rfl))) (mvT hZ (hw _ (List.mem_of_getElem? (i := 83) rfl))) (mvT hZ (hw _ (List.mem_of_getElem? (i := 97) rfl))) (by decide) (backOf (W := 0) (rm20b l Z a0 hw [] tv kb b0 b1 b2 h0 n0 Z0 P_V_tv) hZ (hw _ (List.mem_of_getElem? (i := 97) rfl)) (hw _ (List.mem_of_getElem? (i := 83) rfl)) (by decide) (by decide)) (g := (mkF m 33 #[.val (.ref tv), .val (.int (46 : Int32)), .val (.int (0 : Int32)), .val (.int (3 : Int32))] [(.int (3 : Int32)), (.int (0 : Int32)), (.int (46 : Int32)), (.ref tv)])) rfl (by rw [hml]; rfl) (argsL := [(.ref tv), (.int (46 : Int32)), (.int (0 : Int32)), (.int (3 : Int32))]) (rest := []) (lenOf pd_4 rfl) rfl (by show 2 * 0 + _ ≤ _; exact Nat.le_of_eq rfl) (hb hby d16_33) (fun _ _ => ⟨rfl, eh5, (by decide : 0 + 0 ≤ _), (by decide : 0 + 0 ≤ _)⟩)
  dsimp only [Pt.U, Pt.locs, Pt.cells, Pt.slots] at X7 l7 y7 z7 st7 hQ7
  rw [l7] at X7
  subst y7 z7
  obtain ⟨rfl, Nq7, eh7⟩ := hQ7
  have N7 := Fr.app N5 Nq7
  refine own_go (fun _ k => st7 _ k) ?_
  show own_G _ _ _ (T7.setTop (mkF m 36 #[.val (.ref tv), .val (.int (46 : Int32)), .val (.int (0 : Int32)), .val (.int (3 : Int32))] [(.int (own_f3 b0 b1 b2))])) _ _ _ _
  exact own_endI X7 hx hlk Bd.returns (hb hby d16_36) (by decide) (by decide) (Q := (Q16b Z tv kb b0 b1 b2 h0 n0)) (by rw [eh7]; exact ⟨rfl, N7, rfl⟩)
def Q12b (Z : State) (p0 : Addr) (zc : Int32) (tv : Addr) (kb : ClassId) (b0 : Int32) (b1 : Int32) (b2 : Int32) (h0 : Heap) (n0 : Nat) (v : Option Value) (h : Heap) (L : List Loc) : Prop := v = some (.int (own_f3 b0 b1 b2)) ∧ Fr n0 L ∧ h = h0
set_option maxRecDepth 65536 in
set_option maxHeartbeats 40000000 in
theorem rm12b (l : Launch) (Z : State) (a0 : Array Value) (hw : ∀ d ∈ tables_1, d.before a0 Z = true) (ws : List Jvm.Cond) (p0 : Addr) (zc : Int32) (tv : Addr) (kb : ClassId) (b0 : Int32) (b1 : Int32) (b2 : Int32) (h0 : Heap) (n0 : Nat) (Z0 : n0 ≤ h0.size) (P_Old : Old Z n0 h0) (P_ZS_java_lang_String_COMPACT_STRINGS : Sta Z Z.heap "java/lang/String" "COMPACT_STRINGS" "Z" (.int zc)) (hcs : ¬ zc = 0) (P_E_p0 : Exa Z h0 p0 "java/lang/String") (P_F_p0_coder : Fld Z h0 p0 "java/lang/String" "coder" "B" (.int 0)) (P_F_p0_value : Fld Z h0 p0 "java/lang/String" "value" "[B" (.ref tv)) (P_V_tv : Arv Z h0 tv kb .byte (3 : Int32) [(.int b0), (.int b1), (.int b2)] (.int (0 : Int32))) :
    MetFree l (⟨"java/lang/String", "indexOf", "(II)I"⟩ : MethodName) (head1 (Jvm.Cond.code (⟨"java/lang/String", "indexOf", "(II)I"⟩ : MethodName) jdk_42_method_80_code 3 (some .int) :: ws) ({ frames := 2, cells := 0, slots := 0, locals := 32 } : Room)) (fun a U => a = #[(.ref p0), (.int (46 : Int32)), (.int (0 : Int32))] ∧ Z.Warmed39 U.vm ∧ U.heap = h0) (fun _ _ _ _ _ => True) (fun _ U o U' => ∃ v L, o = .returned v ∧ (Q12b Z p0 zc tv kb b0 b1 b2 h0 n0) v U'.heap L ∧ FrameEnd U o U' L ({ frames := 2, cells := 0, slots := 0, locals := 32 } : Room).cells ({ frames := 2, cells := 0, slots := 0, locals := 32 } : Room).slots) := by
  refine MetFree.of_bodySF (plainFor_of_name pn_3) hisR ?_
  intro p e s m args below meth c s₁ Bd hml0 hP hK
  obtain ⟨rfl, hZ, hh⟩ := hP
  have hx := Bd.exec
  have hby := Bd.bytes
  have hml : c.maxLocals = 3 := hml0
  have hown : s.vm.findClass "java/lang/String" = some m.cls := findClass_of_methodNamed Bd.named
  have hnm := (name_of_methodNamed Bd.named Bd.method).1
  have hlk : meth.locks = false := BodyLoose.notSynchronized Bd
  have X0 : Stand p l e ({ frames := 2, cells := 0, slots := 0, locals := 32 } : Room) s m #[(.ref p0), (.int (46 : Int32)), (.int (0 : Int32))] below meth c s₁ [] 0 0 := Stand.of_body Bd
  have e0 : s₁.heap = h0 := by rw [← hh, Bd.state]; rfl
  have N0 := Fr.nil n0
  show own_G p.tables e below (s₁.setTop (entryFrame m #[(.ref p0), (.int (46 : Int32)), (.int (0 : Int32))] 3)) s ({ frames := 2, cells := 0, slots := 0, locals := 32 } : Room).cells ({ frames := 2, cells := 0, slots := 0, locals := 32 } : Room).slots (Q12b Z p0 zc tv kb b0 b1 b2 h0 n0)
  refine own_go (fun _ k => castTop (ef_12a m p0) k) ?_
  show own_G _ _ _ (s₁.setTop (mkF m 0 #[.val (.ref p0), .val (.int (46 : Int32)), .val (.int (0 : Int32))] [])) _ _ _ _
  refine own_go (fun _ k => XS.aloadN X0.here hx rfl (hb hby d12_0) rfl rfl k) ?_
  show own_G _ _ _ (s₁.setTop (mkF m 1 #[.val (.ref p0), .val (.int (46 : Int32)), .val (.int (0 : Int32))] [(.ref p0)])) _ _ _ _
  obtain ⟨cq1, kq1, q1a, q1b, q1c⟩ := isOf hZ e0 P_E_p0
  obtain ⟨_, _, ⟨T1, L1, k1, n1⟩, -, X1, ⟨Lc1, hQ1, l1, y1, z1⟩, st1⟩ := X0.virtualBack hx (y := (⟨"java/lang/String", "isLatin1", "()Z"⟩ : MethodName)) (z := (⟨"java/lang/String", "isLatin1", "()Z"⟩ : MethodName)) hown (mvT hZ (hw _ (List.mem_of_getElem? (i := 66) rfl))) (mvT hZ (hw _ (List.mem_of_getElem? (i := 67) rfl))) (notFace_of_selects (args := #[]) (mvT hZ (hw _ (List.mem_of_getElem? (i := 69) rfl)))) (mvT hZ (hw _ (List.mem_of_getElem? (i := 69) rfl))) (mvT hZ (hw _ (List.mem_of_getElem? (i := 68) rfl))) (by decide) (backOf (W := 0) (rm13 l Z a0 hw [] p0 zc h0 n0 Z0 P_Old P_ZS_java_lang_String_COMPACT_STRINGS (by assumption) P_F_p0_coder) hZ (hw _ (List.mem_of_getElem? (i := 70) rfl)) (hw _ (List.mem_of_getElem? (i := 13) rfl)) (by decide) (by decide)) q1a q1c (g := (mkF m 1 #[.val (.ref p0), .val (.int (46 : Int32)), .val (.int (0 : Int32))] [(.ref p0)])) rfl (by rw [hml]; rfl) (Steps.refl _) (argsL := []) (rest := []) (lenOf pd_5 rfl) rfl (by show 2 * 0 + _ ≤ _; exact Nat.le_of_eq rfl) (hb hby d12_1) (fun _ _ => ⟨rfl, e0, (by decide : 0 + 0 ≤ _), (by decide : 0 + 0 ≤ _)⟩)
  dsimp only [Pt.U, Pt.locs, Pt.cells, Pt.slots] at X1 l1 y1 z1 st1 hQ1
  rw [l1] at X1
  subst y1 z1
  obtain ⟨rfl, Nq1, eh1⟩ := hQ1
  have N1 := Fr.app N0 Nq1
  refine own_tr st1 ?_
  show own_G _ _ _ (T1.setTop (mkF m 4 #[.val (.ref p0), .val (.int (46 : Int32)), .val (.int (0 : Int32))] [(.int (1 : Int32))])) _ _ _ _
  have hc2 : ¬ ((1 : Int32) = (0 : Int32)) := (by decide)
  refine own_go (fun _ k => XS.ifNo X1.here hx rfl (hb hby d12_4) rfl ((if0 _ _).trans (feq hc2).1) k) ?_
  show own_G _ _ _ (T1.setTop (mkF m 7 #[.val (.ref p0), .val (.int (46 : Int32)), .val (.int (0 : Int32))] [])) _ _ _ _
  refine own_go (fun _ k => XS.aloadN X1.here hx rfl (hb hby d12_7) rfl rfl k) ?_
  show own_G _ _ _ (T1.setTop (mkF m 8 #[.val (.ref p0), .val (.int (46 : Int32)), .val (.int (0 : Int32))] [(.ref p0)])) _ _ _ _
  obtain ⟨T3, X3, e3, st3⟩ := getF X1 hx hZ hown (host := "") (Or.inl (hw _ (List.mem_of_getElem? (i := 38) rfl))) Via.refl eh1 P_F_p0_value (g := (mkF m 8 #[.val (.ref p0), .val (.int (46 : Int32)), .val (.int (0 : Int32))] [(.ref p0)])) rfl rfl (hb hby d12_8)
  refine own_go (fun _ k => st3 _ k) ?_
  show own_G _ _ _ (T3.setTop (mkF m 11 #[.val (.ref p0), .val (.int (46 : Int32)), .val (.int (0 : Int32))] [(.ref tv)])) _ _ _ _
  refine own_go (fun _ k => XS.iloadN X3.here hx rfl (hb hby d12_11) rfl k) ?_
  show own_G _ _ _ (T3.setTop (mkF m 12 #[.val (.ref p0), .val (.int (46 : Int32)), .val (.int (0 : Int32))] [(.int (46 : Int32)), (.ref tv)])) _ _ _ _
  refine own_go (fun _ k => XS.iloadN X3.here hx rfl (hb hby d12_12) rfl k) ?_
  show own_G _ _ _ (T3.setTop (mkF m 13 #[.val (.ref p0), .val (.int (46 : Int32)), .val (.int (0 : Int32))] [(.int (0 : Int32)), (.int (46 : Int32)), (.ref tv)])) _ _ _ _
  refine own_go (fun _ k => XS.aloadN X3.here hx rfl (hb hby d12_13) rfl rfl k) ?_
  show own_G _ _ _ (T3.setTop (mkF m 14 #[.val (.ref p0), .val (.int (46 : Int32)), .val (.int (0 : Int32))] [(.ref p0), (.int (0 : Int32)), (.int (46 : Int32)), (.ref tv)])) _ _ _ _
  obtain ⟨cq4, kq4, q4a, q4b, q4c⟩ := isOf hZ e3 P_E_p0
  obtain ⟨_, _, ⟨T4, L4, k4, n4⟩, -, X4, ⟨Lc4, hQ4, l4, y4, z4⟩, st4⟩ := X3.virtualBack hx (y := (⟨"java/lang/String", "length", "()I"⟩ : MethodName)) (z := (⟨"java/lang/String", "length", "()I"⟩ : MethodName)) hown (mvT hZ (hw _ (List.mem_of_getElem? (i := 71) rfl))) (mvT hZ (hw _ (List.mem_of_getElem? (i := 72) rfl))) (notFace_of_selects (args := #[]) (mvT hZ (hw _ (List.mem_of_getElem? (i := 74) rfl)))) (mvT hZ (hw _ (List.mem_of_getElem? (i := 74) rfl))) (mvT hZ (hw _ (List.mem_of_getElem? (i := 73) rfl))) (by decide) (backOf (W := 3) (rm14b l Z a0 hw [] p0 zc tv kb b0 b1 b2 h0 n0 Z0 P_Old P_ZS_java_lang_String_COMPACT_STRINGS (by assumption) P_E_p0 P_F_p0_coder P_F_p0_value P_V_tv) hZ (hw _ (List.mem_of_getElem? (i := 75) rfl)) (hw _ (List.mem_of_getElem? (i := 13) rfl)) (by decide) (by decide)) q4a q4c (g := (mkF m 14 #[.val (.ref p0), .val (.int (46 : Int32)), .val (.int (0 : Int32))] [(.ref p0), (.int (0 : Int32)), (.int (46 : Int32)), (.ref tv)])) rfl (by rw [hml]; rfl) (Steps.refl _) (argsL := []) (rest := [(.int (0 : Int32)), (.int (46 : Int32)), (.ref tv)]) (lenOf pd_6 rfl) rfl (by show 2 * 0 + _ ≤ _; exact Nat.le_of_eq rfl) (hb hby d12_14) (fun _ _ => ⟨rfl, e3, (by decide : 0 + 0 ≤ _), (by decide : 0 + 0 ≤ _)⟩)
  dsimp only [Pt.U, Pt.locs, Pt.cells, Pt.slots] at X4 l4 y4 z4 st4 hQ4
  rw [l4] at X4
  subst y4 z4
  obtain ⟨rfl, Nq4, eh4⟩ := hQ4
  have N4 := Fr.app N1 Nq4
  refine own_tr st4 ?_
  show own_G _ _ _ (T4.setTop (mkF m 17 #[.val (.ref p0), .val (.int (46 : Int32)), .val (.int (0 : Int32))] [(.int (3 : Int32)), (.int (0 : Int32)), (.int (46 : Int32)), (.ref tv)])) _ _ _ _
  obtain ⟨_, _, ⟨T5, L5, k5, n5⟩, -, X5, ⟨Lc5, hQ5, l5, y5, z5⟩, st5⟩ := Jvm.LawKit.callS X4 hx (y := (⟨"java/lang/StringLatin1", "indexOf", "([BIII)I"⟩ : MethodName)) hown (mvT hZ (hw _ (List.mem_of_getElem? (i := 81) rfl))) (mvT hZ (hw _ (List.mem_of_getElem? (i := 82) rfl))) (mvT hZ (hw _ (List.mem_of_getElem? (i := 83) rfl))) (mvT hZ (hw _ (List.mem_of_getElem? (i := 84) rfl))) (by decide) (backOf (W := 0) (rm16b l Z a0 hw [] tv kb b0 b1 b2 h0 n0 Z0 P_V_tv) hZ (hw _ (List.mem_of_getElem? (i := 84) rfl)) (hw _ (List.mem_of_getElem? (i := 83) rfl)) (by decide) (by decide)) (g := (mkF m 17 #[.val (.ref p0), .val (.int (46 : Int32)), .val (.int (0 : Int32))] [(.int (3 : Int32)), (.int (0 : Int32)), (.int (46 : Int32)), (.ref tv)])) rfl (by rw [hml]; rfl) (argsL := [(.ref tv), (.int (46 : Int32)), (.int (0 : Int32)), (.int (3 : Int32))]) (rest := []) (lenOf pd_4 rfl) rfl (by show 2 * 0 + _ ≤ _; exact Nat.le_of_eq rfl) (hb hby d12_17) (fun _ _ => ⟨rfl, eh4, (by decide : 0 + 0 ≤ _), (by decide : 0 + 0 ≤ _)⟩)
  dsimp only [Pt.U, Pt.locs, Pt.cells, Pt.slots] at X5 l5 y5 z5 st5 hQ5
  rw [l5] at X5
  subst y5 z5
  obtain ⟨rfl, Nq5, eh5⟩ := hQ5
  have N5 := Fr.app N4 Nq5
  refine own_go (fun _ k => st5 _ k) ?_
  show own_G _ _ _ (T5.setTop (mkF m 20 #[.val (.ref p0), .val (.int (46 : Int32)), .val (.int (0 : Int32))] [(.int (own_f3 b0 b1 b2))])) _ _ _ _
  refine own_go (fun _ k => XS.goto X5.here hx rfl (pc0 := 20) (pc' := 36) rfl (hb hby d12_20) (by decide) (by decide) k) ?_
  show own_G _ _ _ (T5.setTop (mkF m 36 #[.val (.ref p0), .val (.int (46 : Int32)), .val (.int (0 : Int32))] [(.int (own_f3 b0 b1 b2))])) _ _ _ _
  exact own_endI X5 hx hlk Bd.returns (hb hby d12_36) (by decide) (by decide) (Q := (Q12b Z p0 zc tv kb b0 b1 b2 h0 n0)) (by rw [eh5]; exact ⟨rfl, N5, rfl⟩)
def Q11b (Z : State) (p0 : Addr) (zc : Int32) (tv : Addr) (kb : ClassId) (b0 : Int32) (b1 : Int32) (b2 : Int32) (h0 : Heap) (n0 : Nat) (v : Option Value) (h : Heap) (L : List Loc) : Prop := v = some (.int (own_f3 b0 b1 b2)) ∧ Fr n0 L ∧ h = h0
set_option maxRecDepth 65536 in
set_option maxHeartbeats 40000000 in
theorem rm11b (l : Launch) (Z : State) (a0 : Array Value) (hw : ∀ d ∈ tables_1, d.before a0 Z = true) (ws : List Jvm.Cond) (p0 : Addr) (zc : Int32) (tv : Addr) (kb : ClassId) (b0 : Int32) (b1 : Int32) (b2 : Int32) (h0 : Heap) (n0 : Nat) (Z0 : n0 ≤ h0.size) (P_Old : Old Z n0 h0) (P_ZS_java_lang_String_COMPACT_STRINGS : Sta Z Z.heap "java/lang/String" "COMPACT_STRINGS" "Z" (.int zc)) (hcs : ¬ zc = 0) (P_E_p0 : Exa Z h0 p0 "java/lang/String") (P_F_p0_coder : Fld Z h0 p0 "java/lang/String" "coder" "B" (.int 0)) (P_F_p0_value : Fld Z h0 p0 "java/lang/String" "value" "[B" (.ref tv)) (P_V_tv : Arv Z h0 tv kb .byte (3 : Int32) [(.int b0), (.int b1), (.int b2)] (.int (0 : Int32))) :
    MetFree l (⟨"java/lang/String", "indexOf", "(I)I"⟩ : MethodName) (head1 (Jvm.Cond.code (⟨"java/lang/String", "indexOf", "(I)I"⟩ : MethodName) jdk_42_method_79_code 2 (some .int) :: ws) ({ frames := 3, cells := 0, slots := 0, locals := 46 } : Room)) (fun a U => a = #[(.ref p0), (.int (46 : Int32))] ∧ Z.Warmed39 U.vm ∧ U.heap = h0) (fun _ _ _ _ _ => True) (fun _ U o U' => ∃ v L, o = .returned v ∧ (Q11b Z p0 zc tv kb b0 b1 b2 h0 n0) v U'.heap L ∧ FrameEnd U o U' L ({ frames := 3, cells := 0, slots := 0, locals := 46 } : Room).cells ({ frames := 3, cells := 0, slots := 0, locals := 46 } : Room).slots) := by
  refine MetFree.of_bodySF (plainFor_of_name pn_3) hisR ?_
  intro p e s m args below meth c s₁ Bd hml0 hP hK
  obtain ⟨rfl, hZ, hh⟩ := hP
  have hx := Bd.exec
  have hby := Bd.bytes
  have hml : c.maxLocals = 2 := hml0
  have hown : s.vm.findClass "java/lang/String" = some m.cls := findClass_of_methodNamed Bd.named
  have hnm := (name_of_methodNamed Bd.named Bd.method).1
  have hlk : meth.locks = false := BodyLoose.notSynchronized Bd
  have X0 : Stand p l e ({ frames := 3, cells := 0, slots := 0, locals := 46 } : Room) s m #[(.ref p0), (.int (46 : Int32))] below meth c s₁ [] 0 0 := Stand.of_body Bd
  have e0 : s₁.heap = h0 := by rw [← hh, Bd.state]; rfl
  have N0 := Fr.nil n0
  show own_G p.tables e below (s₁.setTop (entryFrame m #[(.ref p0), (.int (46 : Int32))] 2)) s ({ frames := 3, cells := 0, slots := 0, locals := 46 } : Room).cells ({ frames := 3, cells := 0, slots := 0, locals := 46 } : Room).slots (Q11b Z p0 zc tv kb b0 b1 b2 h0 n0)
  refine own_go (fun _ k => castTop (ef_11a m p0) k) ?_
  show own_G _ _ _ (s₁.setTop (mkF m 0 #[.val (.ref p0), .val (.int (46 : Int32))] [])) _ _ _ _
  refine own_go (fun _ k => XS.aloadN X0.here hx rfl (hb hby d11_0) rfl rfl k) ?_
  show own_G _ _ _ (s₁.setTop (mkF m 1 #[.val (.ref p0), .val (.int (46 : Int32))] [(.ref p0)])) _ _ _ _
  refine own_go (fun _ k => XS.iloadN X0.here hx rfl (hb hby d11_1) rfl k) ?_
  show own_G _ _ _ (s₁.setTop (mkF m 2 #[.val (.ref p0), .val (.int (46 : Int32))] [(.int (46 : Int32)), (.ref p0)])) _ _ _ _
  refine own_go (fun _ k => XS.iconst X0.here hx rfl (hb hby d11_2) k) ?_
  show own_G _ _ _ (s₁.setTop (mkF m 3 #[.val (.ref p0), .val (.int (46 : Int32))] [(.int (0 : Int32)), (.int (46 : Int32)), (.ref p0)])) _ _ _ _
  obtain ⟨cq1, kq1, q1a, q1b, q1c⟩ := isOf hZ e0 P_E_p0
  obtain ⟨_, _, ⟨T1, L1, k1, n1⟩, -, X1, ⟨Lc1, hQ1, l1, y1, z1⟩, st1⟩ := X0.virtualBack hx (y := (⟨"java/lang/String", "indexOf", "(II)I"⟩ : MethodName)) (z := (⟨"java/lang/String", "indexOf", "(II)I"⟩ : MethodName)) hown (mvT hZ (hw _ (List.mem_of_getElem? (i := 61) rfl))) (mvT hZ (hw _ (List.mem_of_getElem? (i := 62) rfl))) (notFace_of_selects (args := #[]) (mvT hZ (hw _ (List.mem_of_getElem? (i := 64) rfl)))) (mvT hZ (hw _ (List.mem_of_getElem? (i := 64) rfl))) (mvT hZ (hw _ (List.mem_of_getElem? (i := 63) rfl))) (by decide) (backOf (W := 0) (rm12b l Z a0 hw [] p0 zc tv kb b0 b1 b2 h0 n0 Z0 P_Old P_ZS_java_lang_String_COMPACT_STRINGS (by assumption) P_E_p0 P_F_p0_coder P_F_p0_value P_V_tv) hZ (hw _ (List.mem_of_getElem? (i := 65) rfl)) (hw _ (List.mem_of_getElem? (i := 13) rfl)) (by decide) (by decide)) q1a q1c (g := (mkF m 3 #[.val (.ref p0), .val (.int (46 : Int32))] [(.int (0 : Int32)), (.int (46 : Int32)), (.ref p0)])) rfl (by rw [hml]; rfl) (Steps.refl _) (argsL := [(.int (46 : Int32)), (.int (0 : Int32))]) (rest := []) (lenOf pd_3 rfl) rfl (by show 2 * 0 + _ ≤ _; exact Nat.le_of_eq rfl) (hb hby d11_3) (fun _ _ => ⟨rfl, e0, (by decide : 0 + 0 ≤ _), (by decide : 0 + 0 ≤ _)⟩)
  dsimp only [Pt.U, Pt.locs, Pt.cells, Pt.slots] at X1 l1 y1 z1 st1 hQ1
  rw [l1] at X1
  subst y1 z1
  obtain ⟨rfl, Nq1, eh1⟩ := hQ1
  have N1 := Fr.app N0 Nq1
  refine own_tr st1 ?_
  show own_G _ _ _ (T1.setTop (mkF m 6 #[.val (.ref p0), .val (.int (46 : Int32))] [(.int (own_f3 b0 b1 b2))])) _ _ _ _
  exact own_endI X1 hx hlk Bd.returns (hb hby d11_6) (by decide) (by decide) (Q := (Q11b Z p0 zc tv kb b0 b1 b2 h0 n0)) (by rw [eh1]; exact ⟨rfl, N1, rfl⟩)
def Q10b (Z : State) (p0 : Addr) (zc : Int32) (st : Addr) (tv : Addr) (kb : ClassId) (b0 : Int32) (b1 : Int32) (b2 : Int32) (h0 : Heap) (n0 : Nat) (v : Option Value) (h : Heap) (L : List Loc) : Prop := v = some (.int (if (own_f3 b0 b1 b2) < (0 : Int32) then (1 : Int32) else (0 : Int32))) ∧ Fr n0 L ∧ h = h0
set_option maxRecDepth 65536 in
set_option maxHeartbeats 40000000 in
theorem rm10b (l : Launch) (Z : State) (a0 : Array Value) (hw : ∀ d ∈ tables_1, d.before a0 Z = true) (ws : List Jvm.Cond) (p0 : Addr) (zc : Int32) (st : Addr) (tv : Addr) (kb : ClassId) (b0 : Int32) (b1 : Int32) (b2 : Int32) (h0 : Heap) (n0 : Nat) (Z0 : n0 ≤ h0.size) (P_Old : Old Z n0 h0) (P_ZS_java_lang_String_COMPACT_STRINGS : Sta Z Z.heap "java/lang/String" "COMPACT_STRINGS" "Z" (.int zc)) (hcs : ¬ zc = 0) (P_F_p0_canonical : Fld Z h0 p0 "com/example/hence/hence/reasoning/Decimal" "canonical" "Ljava/lang/String;" (.ref st)) (P_E_st : Exa Z h0 st "java/lang/String") (P_F_st_coder : Fld Z h0 st "java/lang/String" "coder" "B" (.int 0)) (P_F_st_value : Fld Z h0 st "java/lang/String" "value" "[B" (.ref tv)) (P_V_tv : Arv Z h0 tv kb .byte (3 : Int32) [(.int b0), (.int b1), (.int b2)] (.int (0 : Int32))) :
    MetFree l (⟨"com/example/hence/hence/reasoning/Decimal", "isInteger", "()Z"⟩ : MethodName) (head1 (Jvm.Cond.code (⟨"com/example/hence/hence/reasoning/Decimal", "isInteger", "()Z"⟩ : MethodName) prog_26_method_3_code 1 (some .boolean) :: ws) ({ frames := 4, cells := 0, slots := 0, locals := 59 } : Room)) (fun a U => a = #[(.ref p0)] ∧ Z.Warmed39 U.vm ∧ U.heap = h0) (fun _ _ _ _ _ => True) (fun _ U o U' => ∃ v L, o = .returned v ∧ (Q10b Z p0 zc st tv kb b0 b1 b2 h0 n0) v U'.heap L ∧ FrameEnd U o U' L ({ frames := 4, cells := 0, slots := 0, locals := 59 } : Room).cells ({ frames := 4, cells := 0, slots := 0, locals := 59 } : Room).slots) := by
  refine MetFree.of_bodySF (plainFor_of_name pn_2) hisR ?_
  intro p e s m args below meth c s₁ Bd hml0 hP hK
  obtain ⟨rfl, hZ, hh⟩ := hP
  have hx := Bd.exec
  have hby := Bd.bytes
  have hml : c.maxLocals = 1 := hml0
  have hown : s.vm.findClass "com/example/hence/hence/reasoning/Decimal" = some m.cls := findClass_of_methodNamed Bd.named
  have hnm := (name_of_methodNamed Bd.named Bd.method).1
  have hlk : meth.locks = false := BodyLoose.notSynchronized Bd
  have X0 : Stand p l e ({ frames := 4, cells := 0, slots := 0, locals := 59 } : Room) s m #[(.ref p0)] below meth c s₁ [] 0 0 := Stand.of_body Bd
  have e0 : s₁.heap = h0 := by rw [← hh, Bd.state]; rfl
  have N0 := Fr.nil n0
  show own_G p.tables e below (s₁.setTop (entryFrame m #[(.ref p0)] 1)) s ({ frames := 4, cells := 0, slots := 0, locals := 59 } : Room).cells ({ frames := 4, cells := 0, slots := 0, locals := 59 } : Room).slots (Q10b Z p0 zc st tv kb b0 b1 b2 h0 n0)
  refine own_go (fun _ k => castTop (ef_10a m p0) k) ?_
  show own_G _ _ _ (s₁.setTop (mkF m 0 #[.val (.ref p0)] [])) _ _ _ _
  refine own_go (fun _ k => XS.aloadN X0.here hx rfl (hb hby d10_0) rfl rfl k) ?_
  show own_G _ _ _ (s₁.setTop (mkF m 1 #[.val (.ref p0)] [(.ref p0)])) _ _ _ _
  obtain ⟨T1, X1, e1, st1⟩ := getF X0 hx hZ hown (host := "") (Or.inl (hw _ (List.mem_of_getElem? (i := 49) rfl))) Via.refl e0 P_F_p0_canonical (g := (mkF m 1 #[.val (.ref p0)] [(.ref p0)])) rfl rfl (hb hby d10_1)
  refine own_go (fun _ k => st1 _ k) ?_
  show own_G _ _ _ (T1.setTop (mkF m 4 #[.val (.ref p0)] [(.ref st)])) _ _ _ _
  refine own_go (fun _ k => XS.bipush X1.here hx rfl (hb hby d10_4) k) ?_
  show own_G _ _ _ (T1.setTop (mkF m 6 #[.val (.ref p0)] [(.int (46 : Int32)), (.ref st)])) _ _ _ _
  obtain ⟨cq2, kq2, q2a, q2b, q2c⟩ := isOf hZ e1 P_E_st
  obtain ⟨_, _, ⟨T2, L2, k2, n2⟩, -, X2, ⟨Lc2, hQ2, l2, y2, z2⟩, st2⟩ := X1.virtualBack hx (y := (⟨"java/lang/String", "indexOf", "(I)I"⟩ : MethodName)) (z := (⟨"java/lang/String", "indexOf", "(I)I"⟩ : MethodName)) hown (mvT hZ (hw _ (List.mem_of_getElem? (i := 56) rfl))) (mvT hZ (hw _ (List.mem_of_getElem? (i := 57) rfl))) (notFace_of_selects (args := #[]) (mvT hZ (hw _ (List.mem_of_getElem? (i := 59) rfl)))) (mvT hZ (hw _ (List.mem_of_getElem? (i := 59) rfl))) (mvT hZ (hw _ (List.mem_of_getElem? (i := 58) rfl))) (by decide) (backOf (W := 0) (rm11b l Z a0 hw [] st zc tv kb b0 b1 b2 h0 n0 Z0 P_Old P_ZS_java_lang_String_COMPACT_STRINGS (by assumption) P_E_st P_F_st_coder P_F_st_value P_V_tv) hZ (hw _ (List.mem_of_getElem? (i := 60) rfl)) (hw _ (List.mem_of_getElem? (i := 13) rfl)) (by decide) (by decide)) q2a q2c (g := (mkF m 6 #[.val (.ref p0)] [(.int (46 : Int32)), (.ref st)])) rfl (by rw [hml]; rfl) (Steps.refl _) (argsL := [(.int (46 : Int32))]) (rest := []) (lenOf pd_7 rfl) rfl (by show 2 * 0 + _ ≤ _; exact Nat.le_of_eq rfl) (hb hby d10_6) (fun _ _ => ⟨rfl, e1, (by decide : 0 + 0 ≤ _), (by decide : 0 + 0 ≤ _)⟩)
  dsimp only [Pt.U, Pt.locs, Pt.cells, Pt.slots] at X2 l2 y2 z2 st2 hQ2
  rw [l2] at X2
  subst y2 z2
  obtain ⟨rfl, Nq2, eh2⟩ := hQ2
  have N2 := Fr.app N0 Nq2
  refine own_tr st2 ?_
  show own_G _ _ _ (T2.setTop (mkF m 9 #[.val (.ref p0)] [(.int (own_f3 b0 b1 b2))])) _ _ _ _
  by_cases hc3 : (own_f3 b0 b1 b2) < (0 : Int32)
  · refine own_go (fun _ k => XS.ifNo X2.here hx rfl (hb hby d10_9) rfl ((if0 _ _).trans (tlt hc3).2.1) k) ?_
    show own_G _ _ _ (T2.setTop (mkF m 12 #[.val (.ref p0)] [])) _ _ _ _
    refine own_go (fun _ k => XS.iconst X2.here hx rfl (hb hby d10_12) k) ?_
    show own_G _ _ _ (T2.setTop (mkF m 13 #[.val (.ref p0)] [(.int (1 : Int32))])) _ _ _ _
    refine own_go (fun _ k => XS.goto X2.here hx rfl (pc0 := 13) (pc' := 17) rfl (hb hby d10_13) (by decide) (by decide) k) ?_
    show own_G _ _ _ (T2.setTop (mkF m 17 #[.val (.ref p0)] [(.int (1 : Int32))])) _ _ _ _
    exact own_endN X2 hx hlk (t := .boolean) Bd.returns (by simp) (hb hby d10_17) (by decide) (by decide) (Q := (Q10b Z p0 zc st tv kb b0 b1 b2 h0 n0)) (by rw [eh2]; exact ⟨(by rw [if_pos hc3]; rfl), N2, rfl⟩)
  · refine own_go (fun _ k => XS.ifYes X2.here hx rfl (pc0 := 9) (pc' := 16) rfl (hb hby d10_9) rfl ((if0 _ _).trans (flt hc3).2.1) (by decide) (by decide) k) ?_
    show own_G _ _ _ (T2.setTop (mkF m 16 #[.val (.ref p0)] [])) _ _ _ _
    refine own_go (fun _ k => XS.iconst X2.here hx rfl (hb hby d10_16) k) ?_
    show own_G _ _ _ (T2.setTop (mkF m 17 #[.val (.ref p0)] [(.int (0 : Int32))])) _ _ _ _
    exact own_endN X2 hx hlk (t := .boolean) Bd.returns (by simp) (hb hby d10_17) (by decide) (by decide) (Q := (Q10b Z p0 zc st tv kb b0 b1 b2 h0 n0)) (by rw [eh2]; exact ⟨(by rw [if_neg hc3]; rfl), N2, rfl⟩)
theorem own_l6 (p0 s6 l6 : Int32) (h1 : s6 = p0 &&& 1) (h2 : l6 = 6 - s6) : (s6 = 0 ∧ l6 - 1 = 5) ∨ (s6 = 1 ∧ l6 - 1 = 4) := by
  rcases own_s01 p0 with q | q
  · left; rw [h2, h1, q]; decide
  · right; rw [h2, h1, q]; decide
theorem own_nz6 (p0 s6 l6 : Int32) (h1 : s6 = p0 &&& 1) (h2 : l6 = 6 - s6) : l6 - 1 ≠ 0 := by
  rcases own_l6 p0 s6 l6 h1 h2 with ⟨-, q⟩ | ⟨-, q⟩ <;> rw [q] <;> decide
theorem own_law6 (p0 p1 s6 l6 m6 : Int32) (h1 : s6 = p0 &&& 1) (h2 : l6 = 6 - s6) (h3 : m6 = (p1 &&& 2147483647) % (l6 - 1)) : (s6 = 0 ∧ ∃ k : Fin 5, m6 = Int32.ofInt (k.val : Int)) ∨ (s6 = 1 ∧ ∃ k : Fin 4, m6 = Int32.ofInt (k.val : Int)) := by
  have hp : 0 ≤ (p1 &&& 2147483647).toInt := by rw [Jvm.Kit.i32_mask p1 2147483647 (k := 31) (by decide) (by decide)]; omega
  rcases own_l6 p0 s6 l6 h1 h2 with ⟨q, r⟩ | ⟨q, r⟩
  · exact Or.inl ⟨q, by rw [h3, r]; exact own_rem _ 5 5 hp (by decide) (by decide)⟩
  · exact Or.inr ⟨q, by rw [h3, r]; exact own_rem _ 4 4 hp (by decide) (by decide)⟩
theorem own_l3 (x s3 l3 : Int32) (h1 : s3 = x &&& 1) (h2 : l3 = 3 - s3) : (s3 = 0 ∧ l3 - 1 = 2) ∨ (s3 = 1 ∧ l3 - 1 = 1) := by
  rcases own_s01 x with q | q
  · left; rw [h2, h1, q]; decide
  · right; rw [h2, h1, q]; decide
theorem own_nz3 (x s3 l3 : Int32) (h1 : s3 = x &&& 1) (h2 : l3 = 3 - s3) : l3 - 1 ≠ 0 := by
  rcases own_l3 x s3 l3 h1 h2 with ⟨-, q⟩ | ⟨-, q⟩ <;> rw [q] <;> decide
theorem own_law3' (x y s3 l3 m3 : Int32) (h1 : s3 = x &&& 1) (h2 : l3 = 3 - s3) (h3 : m3 = (y &&& 8388607) % (l3 - 1)) : (s3 = 0 ∧ ∃ k : Fin 2, m3 = Int32.ofInt (k.val : Int)) ∨ (s3 = 1 ∧ ∃ k : Fin 1, m3 = Int32.ofInt (k.val : Int)) := by
  have hp : 0 ≤ (y &&& 8388607).toInt := by rw [Jvm.Kit.i32_mask y 8388607 (k := 23) (by decide) (by decide)]; omega
  rcases own_l3 x s3 l3 h1 h2 with ⟨q, r⟩ | ⟨q, r⟩
  · exact Or.inl ⟨q, by rw [h3, r]; exact own_rem _ 2 2 hp (by decide) (by decide)⟩
  · exact Or.inr ⟨q, by rw [h3, r]; exact own_rem _ 1 1 hp (by decide) (by decide)⟩
theorem own_law3 (p0 p1 s3 l3 m3 : Int32) (h1 : s3 = ((p0.toUInt32 >>> ((1 : Int32) &&& 31).toUInt32).toInt32) &&& 1) (h2 : l3 = 3 - s3) (h3 : m3 = (((p1.toUInt32 >>> ((8 : Int32) &&& 31).toUInt32).toInt32) &&& 8388607) % (l3 - 1)) : (s3 = 0 ∧ ∃ k : Fin 2, m3 = Int32.ofInt (k.val : Int)) ∨ (s3 = 1 ∧ ∃ k : Fin 1, m3 = Int32.ofInt (k.val : Int)) := own_law3' _ _ s3 l3 m3 h1 h2 h3
theorem own_r6 {s l m : Int32} {d : Int64} (H : (s = 0 ∧ ∃ k : Fin 5, m = Int32.ofInt (k.val : Int)) ∨ (s = 1 ∧ ∃ k : Fin 4, m = Int32.ofInt (k.val : Int))) (h : m = 0) : (if own_f6 (nar .char (own_ch 0 s m l d)).toInt8.toInt32 (nar .char (own_ch 1 s m l d)).toInt8.toInt32 (nar .char (own_ch 2 s m l d)).toInt8.toInt32 (nar .char (own_ch 3 s m l d)).toInt8.toInt32 (nar .char (own_ch 4 s m l d)).toInt8.toInt32 (nar .char (own_ch 5 s m l d)).toInt8.toInt32 < (0 : Int32) then (1 : Int32) else (0 : Int32)) = 1 := if_pos ((own_six s l m d H).mpr h)
theorem own_r6' {s l m : Int32} {d : Int64} (H : (s = 0 ∧ ∃ k : Fin 5, m = Int32.ofInt (k.val : Int)) ∨ (s = 1 ∧ ∃ k : Fin 4, m = Int32.ofInt (k.val : Int))) (h : ¬ m = 0) : (if own_f6 (nar .char (own_ch 0 s m l d)).toInt8.toInt32 (nar .char (own_ch 1 s m l d)).toInt8.toInt32 (nar .char (own_ch 2 s m l d)).toInt8.toInt32 (nar .char (own_ch 3 s m l d)).toInt8.toInt32 (nar .char (own_ch 4 s m l d)).toInt8.toInt32 (nar .char (own_ch 5 s m l d)).toInt8.toInt32 < (0 : Int32) then (1 : Int32) else (0 : Int32)) = 0 := if_neg (fun q => h ((own_six s l m d H).mp q))
theorem own_r3 {s l m : Int32} {d : Int64} (H : (s = 0 ∧ ∃ k : Fin 2, m = Int32.ofInt (k.val : Int)) ∨ (s = 1 ∧ ∃ k : Fin 1, m = Int32.ofInt (k.val : Int))) (h : m = 0) : (if own_f3 (nar .char (own_ch 0 s m l d)).toInt8.toInt32 (nar .char (own_ch 1 s m l d)).toInt8.toInt32 (nar .char (own_ch 2 s m l d)).toInt8.toInt32 < (0 : Int32) then (1 : Int32) else (0 : Int32)) = 1 := if_pos ((own_three s l m d H).mpr h)
theorem own_r3' {s l m : Int32} {d : Int64} (H : (s = 0 ∧ ∃ k : Fin 2, m = Int32.ofInt (k.val : Int)) ∨ (s = 1 ∧ ∃ k : Fin 1, m = Int32.ofInt (k.val : Int))) (h : ¬ m = 0) : (if own_f3 (nar .char (own_ch 0 s m l d)).toInt8.toInt32 (nar .char (own_ch 1 s m l d)).toInt8.toInt32 (nar .char (own_ch 2 s m l d)).toInt8.toInt32 < (0 : Int32) then (1 : Int32) else (0 : Int32)) = 0 := if_neg (fun q => h ((own_three s l m d H).mp q))
theorem own_hp (i s m l : Int32) (d : Int64) : ¬ nar .char (own_ch i s m l d) < 0 ∧ ¬ (255 : Int32) < nar .char (own_ch i s m l d) := (own_byte _ (own_range i s m l d).1 (own_range i s m l d).2).2
theorem own_hpx {u i s m l : Int32} {d : Int64} (h : u = own_ch i s m l d) : ¬ nar .char u < 0 ∧ ¬ (255 : Int32) < nar .char u := by rw [h]; exact own_hp i s m l d
theorem own_r6x {s l m u0 u1 u2 u3 u4 u5 : Int32} {d : Int64} (g0 : u0 = own_ch 0 s m l d) (g1 : u1 = own_ch 1 s m l d) (g2 : u2 = own_ch 2 s m l d) (g3 : u3 = own_ch 3 s m l d) (g4 : u4 = own_ch 4 s m l d) (g5 : u5 = own_ch 5 s m l d) (H : (s = 0 ∧ ∃ k : Fin 5, m = Int32.ofInt (k.val : Int)) ∨ (s = 1 ∧ ∃ k : Fin 4, m = Int32.ofInt (k.val : Int))) (h : m = 0) : (if own_f6 (nar .char u0).toInt8.toInt32 (nar .char u1).toInt8.toInt32 (nar .char u2).toInt8.toInt32 (nar .char u3).toInt8.toInt32 (nar .char u4).toInt8.toInt32 (nar .char u5).toInt8.toInt32 < (0 : Int32) then (1 : Int32) else (0 : Int32)) = 1 := by
  subst g0 g1 g2 g3 g4 g5
  exact own_r6 H h
theorem own_r6x' {s l m u0 u1 u2 u3 u4 u5 : Int32} {d : Int64} (g0 : u0 = own_ch 0 s m l d) (g1 : u1 = own_ch 1 s m l d) (g2 : u2 = own_ch 2 s m l d) (g3 : u3 = own_ch 3 s m l d) (g4 : u4 = own_ch 4 s m l d) (g5 : u5 = own_ch 5 s m l d) (H : (s = 0 ∧ ∃ k : Fin 5, m = Int32.ofInt (k.val : Int)) ∨ (s = 1 ∧ ∃ k : Fin 4, m = Int32.ofInt (k.val : Int))) (h : ¬ m = 0) : (if own_f6 (nar .char u0).toInt8.toInt32 (nar .char u1).toInt8.toInt32 (nar .char u2).toInt8.toInt32 (nar .char u3).toInt8.toInt32 (nar .char u4).toInt8.toInt32 (nar .char u5).toInt8.toInt32 < (0 : Int32) then (1 : Int32) else (0 : Int32)) = 0 := by
  subst g0 g1 g2 g3 g4 g5
  exact own_r6' H h
theorem own_r3x {s l m u0 u1 u2 : Int32} {d : Int64} (g0 : u0 = own_ch 0 s m l d) (g1 : u1 = own_ch 1 s m l d) (g2 : u2 = own_ch 2 s m l d) (H : (s = 0 ∧ ∃ k : Fin 2, m = Int32.ofInt (k.val : Int)) ∨ (s = 1 ∧ ∃ k : Fin 1, m = Int32.ofInt (k.val : Int))) (h : m = 0) : (if own_f3 (nar .char u0).toInt8.toInt32 (nar .char u1).toInt8.toInt32 (nar .char u2).toInt8.toInt32 < (0 : Int32) then (1 : Int32) else (0 : Int32)) = 1 := by
  subst g0 g1 g2
  exact own_r3 H h
theorem own_r3x' {s l m u0 u1 u2 : Int32} {d : Int64} (g0 : u0 = own_ch 0 s m l d) (g1 : u1 = own_ch 1 s m l d) (g2 : u2 = own_ch 2 s m l d) (H : (s = 0 ∧ ∃ k : Fin 2, m = Int32.ofInt (k.val : Int)) ∨ (s = 1 ∧ ∃ k : Fin 1, m = Int32.ofInt (k.val : Int))) (h : ¬ m = 0) : (if own_f3 (nar .char u0).toInt8.toInt32 (nar .char u1).toInt8.toInt32 (nar .char u2).toInt8.toInt32 < (0 : Int32) then (1 : Int32) else (0 : Int32)) = 0 := by
  subst g0 g1 g2
  exact own_r3' H h
theorem pd_8 : parseMethodDescriptor "(IIIIJ)C" = some ⟨[.int, .int, .int, .int, .long], some .char⟩ := by decide +kernel
theorem pd_9 : parseMethodDescriptor "([C)V" = some ⟨[(.array .char)], none⟩ := by decide +kernel
theorem pd_10 : parseMethodDescriptor "(Ljava/lang/String;)V" = some ⟨[(.object "java/lang/String")], none⟩ := by decide +kernel
theorem ef_0 (m : MethodId) (p0 : Int32) (p1 : Int32) (p2 : Int64) : entryFrame m #[(.int p0), (.int p1), (.long p2)] maxLocals = mkF m 0 #[.val (.int p0), .val (.int p1), .val (.long p2), .second, .unset, .unset, .unset, .unset, .unset, .unset, .unset, .unset, .unset, .unset, .unset, .unset] [] := by first | (simp [entryFrame, mkF, argsToLocals, Value.category, maxLocals]; done) | rfl
def Q0 (Z : State) (p0 : Int32) (p1 : Int32) (p2 : Int64) (zc : Int32) (h0 : Heap) (n0 : Nat) (v : Option Value) (h : Heap) (L : List Loc) : Prop := v = some (.int (1 : Int32)) ∧ Fr n0 L ∧ Keep h0 h []
set_option maxRecDepth 65536 in
set_option maxHeartbeats 40000000 in
theorem rm0 (l : Launch) (Z : State) (a0 : Array Value) (hw : ∀ d ∈ tables_1, d.before a0 Z = true) (ws : List Jvm.Cond) (p0 : Int32) (p1 : Int32) (p2 : Int64) (zc : Int32) (h0 : Heap) (n0 : Nat) (Z0 : n0 ≤ h0.size) (P_Old : Old Z n0 h0) (P_ZS_java_lang_String_COMPACT_STRINGS : Sta Z Z.heap "java/lang/String" "COMPACT_STRINGS" "Z" (.int zc)) (hcs : ¬ zc = 0) :
    MetFree l x (head1 (Jvm.Cond.code x code maxLocals ret :: ws) room_1) (fun a U => a = #[(.int p0), (.int p1), (.long p2)] ∧ Z.Warmed39 U.vm ∧ U.heap = h0) (fun _ _ _ _ _ => True) (fun _ U o U' => ∃ v L, o = .returned v ∧ (Q0 Z p0 p1 p2 zc h0 n0) v U'.heap L ∧ FrameEnd U o U' L room_1.cells room_1.slots) := by
  refine MetFree.of_bodySF (plainFor_of_name pn_0) hisR ?_
  intro p e s m args below meth c s₁ Bd hml0 hP hK
  obtain ⟨rfl, hZ, hh⟩ := hP
  have hx := Bd.exec
  have hby := Bd.bytes
  have hml : c.maxLocals = 16 := hml0
  have hown : s.vm.findClass "com/example/hence/hence/reasoning/DecimalIsIntegerPinLaw" = some m.cls := findClass_of_methodNamed Bd.named
  have hnm := (name_of_methodNamed Bd.named Bd.method).1
  have hlk : meth.locks = false := BodyLoose.notSynchronized Bd
  have X0 : Stand p l e room_1 s m #[(.int p0), (.int p1), (.long p2)] below meth c s₁ [] 0 0 := Stand.of_body Bd
  have e0 : s₁.heap = h0 := by rw [← hh, Bd.state]; rfl
  have N0 := Fr.nil n0
  have K0 : Keep h0 h0 [] := Keep.refl h0 []
  show own_G p.tables e below (s₁.setTop (entryFrame m #[(.int p0), (.int p1), (.long p2)] maxLocals)) s room_1.cells room_1.slots (Q0 Z p0 p1 p2 zc h0 n0)
  refine own_go (fun _ k => castTop (ef_0 m p0 p1 p2) k) ?_
  show own_G _ _ _ (s₁.setTop (mkF m 0 #[.val (.int p0), .val (.int p1), .val (.long p2), .second, .unset, .unset, .unset, .unset, .unset, .unset, .unset, .unset, .unset, .unset, .unset, .unset] [])) _ _ _ _
  refine own_go (fun _ k => XS.iloadN X0.here hx rfl (hb hby at_0) rfl k) ?_
  show own_G _ _ _ (s₁.setTop (mkF m 1 #[.val (.int p0), .val (.int p1), .val (.long p2), .second, .unset, .unset, .unset, .unset, .unset, .unset, .unset, .unset, .unset, .unset, .unset, .unset] [(.int p0)])) _ _ _ _
  refine own_go (fun _ k => XS.iconst X0.here hx rfl (hb hby at_1) k) ?_
  show own_G _ _ _ (s₁.setTop (mkF m 2 #[.val (.int p0), .val (.int p1), .val (.long p2), .second, .unset, .unset, .unset, .unset, .unset, .unset, .unset, .unset, .unset, .unset, .unset, .unset] [(.int (1 : Int32)), (.int p0)])) _ _ _ _
  refine own_go (fun _ k => XS.iand X0.here hx rfl (hb hby at_2) rfl k) ?_
  show own_G _ _ _ (s₁.setTop (mkF m 3 #[.val (.int p0), .val (.int p1), .val (.long p2), .second, .unset, .unset, .unset, .unset, .unset, .unset, .unset, .unset, .unset, .unset, .unset, .unset] [(.int (p0 &&& (1 : Int32)))])) _ _ _ _
  obtain ⟨s6, h_s6⟩ : ∃ z : Int32, z = (p0 &&& (1 : Int32)) := ⟨_, rfl⟩
  · rw [← h_s6]
    show own_G _ _ _ (s₁.setTop (mkF m 3 #[.val (.int p0), .val (.int p1), .val (.long p2), .second, .unset, .unset, .unset, .unset, .unset, .unset, .unset, .unset, .unset, .unset, .unset, .unset] [(.int s6)])) _ _ _ _
    refine own_go (fun _ k => XS.istore X0.here hx rfl (hb hby at_3) rfl (l' := #[.val (.int p0), .val (.int p1), .val (.long p2), .second, .val (.int s6), .unset, .unset, .unset, .unset, .unset, .unset, .unset, .unset, .unset, .unset, .unset]) rfl k) ?_
    show own_G _ _ _ (s₁.setTop (mkF m 5 #[.val (.int p0), .val (.int p1), .val (.long p2), .second, .val (.int s6), .unset, .unset, .unset, .unset, .unset, .unset, .unset, .unset, .unset, .unset, .unset] [])) _ _ _ _
    refine own_go (fun _ k => XS.bipush X0.here hx rfl (hb hby at_5) k) ?_
    show own_G _ _ _ (s₁.setTop (mkF m 7 #[.val (.int p0), .val (.int p1), .val (.long p2), .second, .val (.int s6), .unset, .unset, .unset, .unset, .unset, .unset, .unset, .unset, .unset, .unset, .unset] [(.int (6 : Int32))])) _ _ _ _
    refine own_go (fun _ k => XS.iload X0.here hx rfl (hb hby at_7) rfl k) ?_
    show own_G _ _ _ (s₁.setTop (mkF m 9 #[.val (.int p0), .val (.int p1), .val (.long p2), .second, .val (.int s6), .unset, .unset, .unset, .unset, .unset, .unset, .unset, .unset, .unset, .unset, .unset] [(.int s6), (.int (6 : Int32))])) _ _ _ _
    refine own_go (fun _ k => XS.isub X0.here hx rfl (hb hby at_9) rfl k) ?_
    show own_G _ _ _ (s₁.setTop (mkF m 10 #[.val (.int p0), .val (.int p1), .val (.long p2), .second, .val (.int s6), .unset, .unset, .unset, .unset, .unset, .unset, .unset, .unset, .unset, .unset, .unset] [(.int ((6 : Int32) - s6))])) _ _ _ _
    obtain ⟨l6, h_l6⟩ : ∃ z : Int32, z = ((6 : Int32) - s6) := ⟨_, rfl⟩
    · rw [← h_l6]
      show own_G _ _ _ (s₁.setTop (mkF m 10 #[.val (.int p0), .val (.int p1), .val (.long p2), .second, .val (.int s6), .unset, .unset, .unset, .unset, .unset, .unset, .unset, .unset, .unset, .unset, .unset] [(.int l6)])) _ _ _ _
      refine own_go (fun _ k => XS.istore X0.here hx rfl (hb hby at_10) rfl (l' := #[.val (.int p0), .val (.int p1), .val (.long p2), .second, .val (.int s6), .val (.int l6), .unset, .unset, .unset, .unset, .unset, .unset, .unset, .unset, .unset, .unset]) rfl k) ?_
      show own_G _ _ _ (s₁.setTop (mkF m 12 #[.val (.int p0), .val (.int p1), .val (.long p2), .second, .val (.int s6), .val (.int l6), .unset, .unset, .unset, .unset, .unset, .unset, .unset, .unset, .unset, .unset] [])) _ _ _ _
      refine own_go (fun _ k => XS.iloadN X0.here hx rfl (hb hby at_12) rfl k) ?_
      show own_G _ _ _ (s₁.setTop (mkF m 13 #[.val (.int p0), .val (.int p1), .val (.long p2), .second, .val (.int s6), .val (.int l6), .unset, .unset, .unset, .unset, .unset, .unset, .unset, .unset, .unset, .unset] [(.int p1)])) _ _ _ _
      refine own_go (fun _ k => X0.ldcInt hx hown (mvT hZ (hw _ (List.mem_of_getElem? (i := 0) rfl))) (g := (mkF m 13 #[.val (.int p0), .val (.int p1), .val (.long p2), .second, .val (.int s6), .val (.int l6), .unset, .unset, .unset, .unset, .unset, .unset, .unset, .unset, .unset, .unset] [(.int p1)])) rfl (hb hby at_13) _ k) ?_
      show own_G _ _ _ (s₁.setTop (mkF m 15 #[.val (.int p0), .val (.int p1), .val (.long p2), .second, .val (.int s6), .val (.int l6), .unset, .unset, .unset, .unset, .unset, .unset, .unset, .unset, .unset, .unset] [(.int (2147483647 : Int32)), (.int p1)])) _ _ _ _
      refine own_go (fun _ k => XS.iand X0.here hx rfl (hb hby at_15) rfl k) ?_
      show own_G _ _ _ (s₁.setTop (mkF m 16 #[.val (.int p0), .val (.int p1), .val (.long p2), .second, .val (.int s6), .val (.int l6), .unset, .unset, .unset, .unset, .unset, .unset, .unset, .unset, .unset, .unset] [(.int (p1 &&& (2147483647 : Int32)))])) _ _ _ _
      refine own_go (fun _ k => XS.iload X0.here hx rfl (hb hby at_16) rfl k) ?_
      show own_G _ _ _ (s₁.setTop (mkF m 18 #[.val (.int p0), .val (.int p1), .val (.long p2), .second, .val (.int s6), .val (.int l6), .unset, .unset, .unset, .unset, .unset, .unset, .unset, .unset, .unset, .unset] [(.int l6), (.int (p1 &&& (2147483647 : Int32)))])) _ _ _ _
      refine own_go (fun _ k => XS.iconst X0.here hx rfl (hb hby at_18) k) ?_
      show own_G _ _ _ (s₁.setTop (mkF m 19 #[.val (.int p0), .val (.int p1), .val (.long p2), .second, .val (.int s6), .val (.int l6), .unset, .unset, .unset, .unset, .unset, .unset, .unset, .unset, .unset, .unset] [(.int (1 : Int32)), (.int l6), (.int (p1 &&& (2147483647 : Int32)))])) _ _ _ _
      refine own_go (fun _ k => XS.isub X0.here hx rfl (hb hby at_19) rfl k) ?_
      show own_G _ _ _ (s₁.setTop (mkF m 20 #[.val (.int p0), .val (.int p1), .val (.long p2), .second, .val (.int s6), .val (.int l6), .unset, .unset, .unset, .unset, .unset, .unset, .unset, .unset, .unset, .unset] [(.int (l6 - (1 : Int32))), (.int (p1 &&& (2147483647 : Int32)))])) _ _ _ _
      refine own_go (fun _ k => iremM X0 hx rfl (hb hby at_20) rfl (own_nz6 p0 s6 l6 h_s6 h_l6) k) ?_
      show own_G _ _ _ (s₁.setTop (mkF m 21 #[.val (.int p0), .val (.int p1), .val (.long p2), .second, .val (.int s6), .val (.int l6), .unset, .unset, .unset, .unset, .unset, .unset, .unset, .unset, .unset, .unset] [(.int ((p1 &&& (2147483647 : Int32)) % (l6 - (1 : Int32))))])) _ _ _ _
      obtain ⟨m6, h_m6⟩ : ∃ z : Int32, z = ((p1 &&& (2147483647 : Int32)) % (l6 - (1 : Int32))) := ⟨_, rfl⟩
      · rw [← h_m6]
        have H6 := own_law6 p0 p1 s6 l6 m6 h_s6 h_l6 h_m6
        show own_G _ _ _ (s₁.setTop (mkF m 21 #[.val (.int p0), .val (.int p1), .val (.long p2), .second, .val (.int s6), .val (.int l6), .unset, .unset, .unset, .unset, .unset, .unset, .unset, .unset, .unset, .unset] [(.int m6)])) _ _ _ _
        refine own_go (fun _ k => XS.istore X0.here hx rfl (hb hby at_21) rfl (l' := #[.val (.int p0), .val (.int p1), .val (.long p2), .second, .val (.int s6), .val (.int l6), .val (.int m6), .unset, .unset, .unset, .unset, .unset, .unset, .unset, .unset, .unset]) rfl k) ?_
        show own_G _ _ _ (s₁.setTop (mkF m 23 #[.val (.int p0), .val (.int p1), .val (.long p2), .second, .val (.int s6), .val (.int l6), .val (.int m6), .unset, .unset, .unset, .unset, .unset, .unset, .unset, .unset, .unset] [])) _ _ _ _
        refine own_go (fun _ k => XS.bipush X0.here hx rfl (hb hby at_23) k) ?_
        show own_G _ _ _ (s₁.setTop (mkF m 25 #[.val (.int p0), .val (.int p1), .val (.long p2), .second, .val (.int s6), .val (.int l6), .val (.int m6), .unset, .unset, .unset, .unset, .unset, .unset, .unset, .unset, .unset] [(.int (6 : Int32))])) _ _ _ _
        obtain ⟨T1, h1, k1, X1, e1, E1, A1, st1⟩ := newP X0 hx hZ (hw _ (List.mem_of_getElem? (i := 1) rfl)) e0 (g := (mkF m 25 #[.val (.int p0), .val (.int p1), .val (.long p2), .second, .val (.int s6), .val (.int l6), .val (.int m6), .unset, .unset, .unset, .unset, .unset, .unset, .unset, .unset, .unset] [(.int (6 : Int32))])) rfl (hb hby at_25) rfl (by decide) (cap := 6) (by decide) (by decide) (by decide) (by decide)
        obtain ⟨b1, g1⟩ : ∃ z, z = h0.size := ⟨_, rfl⟩
        rw [← g1] at A1 st1
        have gg1 : n0 ≤ b1 := Nat.le_trans Z0 (Nat.le_of_eq g1.symm)
        have sz1_0 : h0.size ≤ b1 := Nat.le_trans K0.1 (Nat.le_of_eq g1.symm)
        have Zs1 : n0 ≤ h1.size := Nat.le_trans Z0 E1.1
        have K1_0 : Keep h0 h1 [] := K0.ext E1
        have f2 : Old Z n0 h1 := P_Old.ext E1
        have f3 : Arv Z h1 b1 k1 .char (6 : Int32) [(.int (0 : Int32)), (.int (0 : Int32)), (.int (0 : Int32)), (.int (0 : Int32)), (.int (0 : Int32)), (.int (0 : Int32))] (.int (0 : Int32)) := (Arv.new A1 (by decide)).pad (pad_rep [] (.int (0 : Int32)) 6)
        refine own_go (fun _ k => st1 _ k) ?_
        show own_G _ _ _ (T1.setTop (mkF m 27 #[.val (.int p0), .val (.int p1), .val (.long p2), .second, .val (.int s6), .val (.int l6), .val (.int m6), .unset, .unset, .unset, .unset, .unset, .unset, .unset, .unset, .unset] [(.ref b1)])) _ _ _ _
        refine own_go (fun _ k => XS.astore X1.here hx rfl (hb hby at_27) rfl rfl (l' := #[.val (.int p0), .val (.int p1), .val (.long p2), .second, .val (.int s6), .val (.int l6), .val (.int m6), .val (.ref b1), .unset, .unset, .unset, .unset, .unset, .unset, .unset, .unset]) rfl k) ?_
        show own_G _ _ _ (T1.setTop (mkF m 29 #[.val (.int p0), .val (.int p1), .val (.long p2), .second, .val (.int s6), .val (.int l6), .val (.int m6), .val (.ref b1), .unset, .unset, .unset, .unset, .unset, .unset, .unset, .unset] [])) _ _ _ _
        refine own_go (fun _ k => XS.aload X1.here hx rfl (hb hby at_29) rfl rfl k) ?_
        show own_G _ _ _ (T1.setTop (mkF m 31 #[.val (.int p0), .val (.int p1), .val (.long p2), .second, .val (.int s6), .val (.int l6), .val (.int m6), .val (.ref b1), .unset, .unset, .unset, .unset, .unset, .unset, .unset, .unset] [(.ref b1)])) _ _ _ _
        refine own_go (fun _ k => XS.iconst X1.here hx rfl (hb hby at_31) k) ?_
        show own_G _ _ _ (T1.setTop (mkF m 32 #[.val (.int p0), .val (.int p1), .val (.long p2), .second, .val (.int s6), .val (.int l6), .val (.int m6), .val (.ref b1), .unset, .unset, .unset, .unset, .unset, .unset, .unset, .unset] [(.int (0 : Int32)), (.ref b1)])) _ _ _ _
        refine own_go (fun _ k => XS.iconst X1.here hx rfl (hb hby at_32) k) ?_
        show own_G _ _ _ (T1.setTop (mkF m 33 #[.val (.int p0), .val (.int p1), .val (.long p2), .second, .val (.int s6), .val (.int l6), .val (.int m6), .val (.ref b1), .unset, .unset, .unset, .unset, .unset, .unset, .unset, .unset] [(.int (0 : Int32)), (.int (0 : Int32)), (.ref b1)])) _ _ _ _
        refine own_go (fun _ k => XS.iload X1.here hx rfl (hb hby at_33) rfl k) ?_
        show own_G _ _ _ (T1.setTop (mkF m 35 #[.val (.int p0), .val (.int p1), .val (.long p2), .second, .val (.int s6), .val (.int l6), .val (.int m6), .val (.ref b1), .unset, .unset, .unset, .unset, .unset, .unset, .unset, .unset] [(.int s6), (.int (0 : Int32)), (.int (0 : Int32)), (.ref b1)])) _ _ _ _
        refine own_go (fun _ k => XS.iload X1.here hx rfl (hb hby at_35) rfl k) ?_
        show own_G _ _ _ (T1.setTop (mkF m 37 #[.val (.int p0), .val (.int p1), .val (.long p2), .second, .val (.int s6), .val (.int l6), .val (.int m6), .val (.ref b1), .unset, .unset, .unset, .unset, .unset, .unset, .unset, .unset] [(.int m6), (.int s6), (.int (0 : Int32)), (.int (0 : Int32)), (.ref b1)])) _ _ _ _
        refine own_go (fun _ k => XS.iload X1.here hx rfl (hb hby at_37) rfl k) ?_
        show own_G _ _ _ (T1.setTop (mkF m 39 #[.val (.int p0), .val (.int p1), .val (.long p2), .second, .val (.int s6), .val (.int l6), .val (.int m6), .val (.ref b1), .unset, .unset, .unset, .unset, .unset, .unset, .unset, .unset] [(.int l6), (.int m6), (.int s6), (.int (0 : Int32)), (.int (0 : Int32)), (.ref b1)])) _ _ _ _
        refine own_go (fun _ k => XS.lloadN X1.here hx rfl (hb hby at_39) rfl k) ?_
        show own_G _ _ _ (T1.setTop (mkF m 40 #[.val (.int p0), .val (.int p1), .val (.long p2), .second, .val (.int s6), .val (.int l6), .val (.int m6), .val (.ref b1), .unset, .unset, .unset, .unset, .unset, .unset, .unset, .unset] [(.long p2), (.int l6), (.int m6), (.int s6), (.int (0 : Int32)), (.int (0 : Int32)), (.ref b1)])) _ _ _ _
        obtain ⟨_, _, ⟨T4, L4, k4, n4⟩, -, X4, ⟨Lc4, hQ4, l4, y4, z4⟩, st4⟩ := Jvm.LawKit.callS X1 hx (y := (⟨"com/example/hence/hence/reasoning/DecimalIsIntegerPinLaw", "ch", "(IIIIJ)C"⟩ : MethodName)) hown (mvT hZ (hw _ (List.mem_of_getElem? (i := 2) rfl))) (mvT hZ (hw _ (List.mem_of_getElem? (i := 3) rfl))) (mvT hZ (hw _ (List.mem_of_getElem? (i := 4) rfl))) (mvT hZ (hw _ (List.mem_of_getElem? (i := 5) rfl))) (by decide) (backOf (W := 2) (rm1 l Z a0 hw [] (0 : Int32) s6 m6 l6 p2 h1 n0) hZ (hw _ (List.mem_of_getElem? (i := 5) rfl)) (hw _ (List.mem_of_getElem? (i := 4) rfl)) (by decide) (by decide)) (g := (mkF m 40 #[.val (.int p0), .val (.int p1), .val (.long p2), .second, .val (.int s6), .val (.int l6), .val (.int m6), .val (.ref b1), .unset, .unset, .unset, .unset, .unset, .unset, .unset, .unset] [(.long p2), (.int l6), (.int m6), (.int s6), (.int (0 : Int32)), (.int (0 : Int32)), (.ref b1)])) rfl (by rw [hml]; rfl) (argsL := [(.int (0 : Int32)), (.int s6), (.int m6), (.int l6), (.long p2)]) (rest := [(.int (0 : Int32)), (.ref b1)]) (lenOf pd_8 rfl) rfl (by show 2 * 0 + _ ≤ _; exact Nat.le_of_eq rfl) (hb hby at_40) (fun _ _ => ⟨rfl, e1, (by decide : 1 + 0 ≤ _), (by decide : 6 + 0 ≤ _)⟩)
        dsimp only [Pt.U, Pt.locs, Pt.cells, Pt.slots] at X4 l4 y4 z4 st4 hQ4
        rw [l4] at X4
        subst y4 z4
        obtain ⟨rfl, Nq4, eh4⟩ := hQ4
        have N4 := Fr.app N0 Nq4
        refine own_go (fun _ k => st4 _ k) ?_
        show own_G _ _ _ (T4.setTop (mkF m 43 #[.val (.int p0), .val (.int p1), .val (.long p2), .second, .val (.int s6), .val (.int l6), .val (.int m6), .val (.ref b1), .unset, .unset, .unset, .unset, .unset, .unset, .unset, .unset] [(.int (own_ch (0 : Int32) s6 m6 l6 p2)), (.int (0 : Int32)), (.ref b1)])) _ _ _ _
        obtain ⟨u0, h_u0⟩ : ∃ z : Int32, z = (own_ch (0 : Int32) s6 m6 l6 p2) := ⟨_, rfl⟩
        · rw [← h_u0]
          show own_G _ _ _ (T4.setTop (mkF m 43 #[.val (.int p0), .val (.int p1), .val (.long p2), .second, .val (.int s6), .val (.int l6), .val (.int m6), .val (.ref b1), .unset, .unset, .unset, .unset, .unset, .unset, .unset, .unset] [(.int u0), (.int (0 : Int32)), (.ref b1)])) _ _ _ _
          obtain ⟨cl5, Ar5, q5, S5, Ng5, H5, G5⟩ := id f3
          have in5 : ¬ ((0 : Int32) < 0 ∨ cl5.slots.size ≤ ((0 : Int32)).toNatClampNeg) := inb_of S5 ⟨by decide, by decide⟩
          obtain ⟨T5, h5, X5, e5, W5, st5⟩ := stC X4 hx hZ eh4 Ar5 (j := (0 : Int32)) in5 (g := (mkF m 43 #[.val (.int p0), .val (.int p1), .val (.long p2), .second, .val (.int s6), .val (.int l6), .val (.int m6), .val (.ref b1), .unset, .unset, .unset, .unset, .unset, .unset, .unset, .unset] [(.int u0), (.int (0 : Int32)), (.ref b1)])) rfl rfl (hb hby at_43)
          have N5 := Fr.snoc X5 N4 gg1
          have Zs5 : n0 ≤ h5.size := Nat.le_trans Zs1 (Keep.of_wr W5).1
          have K5_0 : Keep h0 h5 [] := K1_0.wr W5 (Or.inr sz1_0)
          have f6 : Old Z n0 h5 := f2.wr W5 gg1
          have f7 : Arv Z h5 b1 k1 .char (6 : Int32) [(.int (nar .char u0)), (.int (0 : Int32)), (.int (0 : Int32)), (.int (0 : Int32)), (.int (0 : Int32)), (.int (0 : Int32))] (.int (0 : Int32)) := Arv.set Ar5 q5 S5 Ng5 H5 G5 (fits_nar_char _) W5 0 rfl (Nat.le_of_ble_eq_true rfl)
          refine own_go (fun _ k => st5 _ k) ?_
          show own_G _ _ _ (T5.setTop (mkF m 44 #[.val (.int p0), .val (.int p1), .val (.long p2), .second, .val (.int s6), .val (.int l6), .val (.int m6), .val (.ref b1), .unset, .unset, .unset, .unset, .unset, .unset, .unset, .unset] [])) _ _ _ _
          refine own_go (fun _ k => XS.aload X5.here hx rfl (hb hby at_44) rfl rfl k) ?_
          show own_G _ _ _ (T5.setTop (mkF m 46 #[.val (.int p0), .val (.int p1), .val (.long p2), .second, .val (.int s6), .val (.int l6), .val (.int m6), .val (.ref b1), .unset, .unset, .unset, .unset, .unset, .unset, .unset, .unset] [(.ref b1)])) _ _ _ _
          refine own_go (fun _ k => XS.iconst X5.here hx rfl (hb hby at_46) k) ?_
          show own_G _ _ _ (T5.setTop (mkF m 47 #[.val (.int p0), .val (.int p1), .val (.long p2), .second, .val (.int s6), .val (.int l6), .val (.int m6), .val (.ref b1), .unset, .unset, .unset, .unset, .unset, .unset, .unset, .unset] [(.int (1 : Int32)), (.ref b1)])) _ _ _ _
          refine own_go (fun _ k => XS.iconst X5.here hx rfl (hb hby at_47) k) ?_
          show own_G _ _ _ (T5.setTop (mkF m 48 #[.val (.int p0), .val (.int p1), .val (.long p2), .second, .val (.int s6), .val (.int l6), .val (.int m6), .val (.ref b1), .unset, .unset, .unset, .unset, .unset, .unset, .unset, .unset] [(.int (1 : Int32)), (.int (1 : Int32)), (.ref b1)])) _ _ _ _
          refine own_go (fun _ k => XS.iload X5.here hx rfl (hb hby at_48) rfl k) ?_
          show own_G _ _ _ (T5.setTop (mkF m 50 #[.val (.int p0), .val (.int p1), .val (.long p2), .second, .val (.int s6), .val (.int l6), .val (.int m6), .val (.ref b1), .unset, .unset, .unset, .unset, .unset, .unset, .unset, .unset] [(.int s6), (.int (1 : Int32)), (.int (1 : Int32)), (.ref b1)])) _ _ _ _
          refine own_go (fun _ k => XS.iload X5.here hx rfl (hb hby at_50) rfl k) ?_
          show own_G _ _ _ (T5.setTop (mkF m 52 #[.val (.int p0), .val (.int p1), .val (.long p2), .second, .val (.int s6), .val (.int l6), .val (.int m6), .val (.ref b1), .unset, .unset, .unset, .unset, .unset, .unset, .unset, .unset] [(.int m6), (.int s6), (.int (1 : Int32)), (.int (1 : Int32)), (.ref b1)])) _ _ _ _
          refine own_go (fun _ k => XS.iload X5.here hx rfl (hb hby at_52) rfl k) ?_
          show own_G _ _ _ (T5.setTop (mkF m 54 #[.val (.int p0), .val (.int p1), .val (.long p2), .second, .val (.int s6), .val (.int l6), .val (.int m6), .val (.ref b1), .unset, .unset, .unset, .unset, .unset, .unset, .unset, .unset] [(.int l6), (.int m6), (.int s6), (.int (1 : Int32)), (.int (1 : Int32)), (.ref b1)])) _ _ _ _
          refine own_go (fun _ k => XS.lloadN X5.here hx rfl (hb hby at_54) rfl k) ?_
          show own_G _ _ _ (T5.setTop (mkF m 55 #[.val (.int p0), .val (.int p1), .val (.long p2), .second, .val (.int s6), .val (.int l6), .val (.int m6), .val (.ref b1), .unset, .unset, .unset, .unset, .unset, .unset, .unset, .unset] [(.long p2), (.int l6), (.int m6), (.int s6), (.int (1 : Int32)), (.int (1 : Int32)), (.ref b1)])) _ _ _ _
          obtain ⟨_, _, ⟨T8, L8, k8, n8⟩, -, X8, ⟨Lc8, hQ8, l8, y8, z8⟩, st8⟩ := Jvm.LawKit.callS X5 hx (y := (⟨"com/example/hence/hence/reasoning/DecimalIsIntegerPinLaw", "ch", "(IIIIJ)C"⟩ : MethodName)) hown (mvT hZ (hw _ (List.mem_of_getElem? (i := 2) rfl))) (mvT hZ (hw _ (List.mem_of_getElem? (i := 3) rfl))) (mvT hZ (hw _ (List.mem_of_getElem? (i := 4) rfl))) (mvT hZ (hw _ (List.mem_of_getElem? (i := 5) rfl))) (by decide) (backOf (W := 2) (rm1 l Z a0 hw [] (1 : Int32) s6 m6 l6 p2 h5 n0) hZ (hw _ (List.mem_of_getElem? (i := 5) rfl)) (hw _ (List.mem_of_getElem? (i := 4) rfl)) (by decide) (by decide)) (g := (mkF m 55 #[.val (.int p0), .val (.int p1), .val (.long p2), .second, .val (.int s6), .val (.int l6), .val (.int m6), .val (.ref b1), .unset, .unset, .unset, .unset, .unset, .unset, .unset, .unset] [(.long p2), (.int l6), (.int m6), (.int s6), (.int (1 : Int32)), (.int (1 : Int32)), (.ref b1)])) rfl (by rw [hml]; rfl) (argsL := [(.int (1 : Int32)), (.int s6), (.int m6), (.int l6), (.long p2)]) (rest := [(.int (1 : Int32)), (.ref b1)]) (lenOf pd_8 rfl) rfl (by show 2 * 0 + _ ≤ _; exact Nat.le_of_eq rfl) (hb hby at_55) (fun _ _ => ⟨rfl, e5, (by decide : 1 + 0 ≤ _), (by decide : 6 + 0 ≤ _)⟩)
          dsimp only [Pt.U, Pt.locs, Pt.cells, Pt.slots] at X8 l8 y8 z8 st8 hQ8
          rw [l8] at X8
          subst y8 z8
          obtain ⟨rfl, Nq8, eh8⟩ := hQ8
          have N8 := Fr.app N5 Nq8
          refine own_go (fun _ k => st8 _ k) ?_
          show own_G _ _ _ (T8.setTop (mkF m 58 #[.val (.int p0), .val (.int p1), .val (.long p2), .second, .val (.int s6), .val (.int l6), .val (.int m6), .val (.ref b1), .unset, .unset, .unset, .unset, .unset, .unset, .unset, .unset] [(.int (own_ch (1 : Int32) s6 m6 l6 p2)), (.int (1 : Int32)), (.ref b1)])) _ _ _ _
          obtain ⟨u1, h_u1⟩ : ∃ z : Int32, z = (own_ch (1 : Int32) s6 m6 l6 p2) := ⟨_, rfl⟩
          · rw [← h_u1]
            show own_G _ _ _ (T8.setTop (mkF m 58 #[.val (.int p0), .val (.int p1), .val (.long p2), .second, .val (.int s6), .val (.int l6), .val (.int m6), .val (.ref b1), .unset, .unset, .unset, .unset, .unset, .unset, .unset, .unset] [(.int u1), (.int (1 : Int32)), (.ref b1)])) _ _ _ _
            obtain ⟨cl9, Ar9, q9, S9, Ng9, H9, G9⟩ := id f7
            have in9 : ¬ ((1 : Int32) < 0 ∨ cl9.slots.size ≤ ((1 : Int32)).toNatClampNeg) := inb_of S9 ⟨by decide, by decide⟩
            obtain ⟨T9, h9, X9, e9, W9, st9⟩ := stC X8 hx hZ eh8 Ar9 (j := (1 : Int32)) in9 (g := (mkF m 58 #[.val (.int p0), .val (.int p1), .val (.long p2), .second, .val (.int s6), .val (.int l6), .val (.int m6), .val (.ref b1), .unset, .unset, .unset, .unset, .unset, .unset, .unset, .unset] [(.int u1), (.int (1 : Int32)), (.ref b1)])) rfl rfl (hb hby at_58)
            have N9 := Fr.snoc X9 N8 gg1
            have Zs9 : n0 ≤ h9.size := Nat.le_trans Zs5 (Keep.of_wr W9).1
            have K9_0 : Keep h0 h9 [] := K5_0.wr W9 (Or.inr sz1_0)
            have f10 : Old Z n0 h9 := f6.wr W9 gg1
            have f11 : Arv Z h9 b1 k1 .char (6 : Int32) [(.int (nar .char u0)), (.int (nar .char u1)), (.int (0 : Int32)), (.int (0 : Int32)), (.int (0 : Int32)), (.int (0 : Int32))] (.int (0 : Int32)) := Arv.set Ar9 q9 S9 Ng9 H9 G9 (fits_nar_char _) W9 1 rfl (Nat.le_of_ble_eq_true rfl)
            refine own_go (fun _ k => st9 _ k) ?_
            show own_G _ _ _ (T9.setTop (mkF m 59 #[.val (.int p0), .val (.int p1), .val (.long p2), .second, .val (.int s6), .val (.int l6), .val (.int m6), .val (.ref b1), .unset, .unset, .unset, .unset, .unset, .unset, .unset, .unset] [])) _ _ _ _
            refine own_go (fun _ k => XS.aload X9.here hx rfl (hb hby at_59) rfl rfl k) ?_
            show own_G _ _ _ (T9.setTop (mkF m 61 #[.val (.int p0), .val (.int p1), .val (.long p2), .second, .val (.int s6), .val (.int l6), .val (.int m6), .val (.ref b1), .unset, .unset, .unset, .unset, .unset, .unset, .unset, .unset] [(.ref b1)])) _ _ _ _
            refine own_go (fun _ k => XS.iconst X9.here hx rfl (hb hby at_61) k) ?_
            show own_G _ _ _ (T9.setTop (mkF m 62 #[.val (.int p0), .val (.int p1), .val (.long p2), .second, .val (.int s6), .val (.int l6), .val (.int m6), .val (.ref b1), .unset, .unset, .unset, .unset, .unset, .unset, .unset, .unset] [(.int (2 : Int32)), (.ref b1)])) _ _ _ _
            refine own_go (fun _ k => XS.iconst X9.here hx rfl (hb hby at_62) k) ?_
            show own_G _ _ _ (T9.setTop (mkF m 63 #[.val (.int p0), .val (.int p1), .val (.long p2), .second, .val (.int s6), .val (.int l6), .val (.int m6), .val (.ref b1), .unset, .unset, .unset, .unset, .unset, .unset, .unset, .unset] [(.int (2 : Int32)), (.int (2 : Int32)), (.ref b1)])) _ _ _ _
            refine own_go (fun _ k => XS.iload X9.here hx rfl (hb hby at_63) rfl k) ?_
            show own_G _ _ _ (T9.setTop (mkF m 65 #[.val (.int p0), .val (.int p1), .val (.long p2), .second, .val (.int s6), .val (.int l6), .val (.int m6), .val (.ref b1), .unset, .unset, .unset, .unset, .unset, .unset, .unset, .unset] [(.int s6), (.int (2 : Int32)), (.int (2 : Int32)), (.ref b1)])) _ _ _ _
            refine own_go (fun _ k => XS.iload X9.here hx rfl (hb hby at_65) rfl k) ?_
            show own_G _ _ _ (T9.setTop (mkF m 67 #[.val (.int p0), .val (.int p1), .val (.long p2), .second, .val (.int s6), .val (.int l6), .val (.int m6), .val (.ref b1), .unset, .unset, .unset, .unset, .unset, .unset, .unset, .unset] [(.int m6), (.int s6), (.int (2 : Int32)), (.int (2 : Int32)), (.ref b1)])) _ _ _ _
            refine own_go (fun _ k => XS.iload X9.here hx rfl (hb hby at_67) rfl k) ?_
            show own_G _ _ _ (T9.setTop (mkF m 69 #[.val (.int p0), .val (.int p1), .val (.long p2), .second, .val (.int s6), .val (.int l6), .val (.int m6), .val (.ref b1), .unset, .unset, .unset, .unset, .unset, .unset, .unset, .unset] [(.int l6), (.int m6), (.int s6), (.int (2 : Int32)), (.int (2 : Int32)), (.ref b1)])) _ _ _ _
            refine own_go (fun _ k => XS.lloadN X9.here hx rfl (hb hby at_69) rfl k) ?_
            show own_G _ _ _ (T9.setTop (mkF m 70 #[.val (.int p0), .val (.int p1), .val (.long p2), .second, .val (.int s6), .val (.int l6), .val (.int m6), .val (.ref b1), .unset, .unset, .unset, .unset, .unset, .unset, .unset, .unset] [(.long p2), (.int l6), (.int m6), (.int s6), (.int (2 : Int32)), (.int (2 : Int32)), (.ref b1)])) _ _ _ _
            obtain ⟨_, _, ⟨T12, L12, k12, n12⟩, -, X12, ⟨Lc12, hQ12, l12, y12, z12⟩, st12⟩ := Jvm.LawKit.callS X9 hx (y := (⟨"com/example/hence/hence/reasoning/DecimalIsIntegerPinLaw", "ch", "(IIIIJ)C"⟩ : MethodName)) hown (mvT hZ (hw _ (List.mem_of_getElem? (i := 2) rfl))) (mvT hZ (hw _ (List.mem_of_getElem? (i := 3) rfl))) (mvT hZ (hw _ (List.mem_of_getElem? (i := 4) rfl))) (mvT hZ (hw _ (List.mem_of_getElem? (i := 5) rfl))) (by decide) (backOf (W := 2) (rm1 l Z a0 hw [] (2 : Int32) s6 m6 l6 p2 h9 n0) hZ (hw _ (List.mem_of_getElem? (i := 5) rfl)) (hw _ (List.mem_of_getElem? (i := 4) rfl)) (by decide) (by decide)) (g := (mkF m 70 #[.val (.int p0), .val (.int p1), .val (.long p2), .second, .val (.int s6), .val (.int l6), .val (.int m6), .val (.ref b1), .unset, .unset, .unset, .unset, .unset, .unset, .unset, .unset] [(.long p2), (.int l6), (.int m6), (.int s6), (.int (2 : Int32)), (.int (2 : Int32)), (.ref b1)])) rfl (by rw [hml]; rfl) (argsL := [(.int (2 : Int32)), (.int s6), (.int m6), (.int l6), (.long p2)]) (rest := [(.int (2 : Int32)), (.ref b1)]) (lenOf pd_8 rfl) rfl (by show 2 * 0 + _ ≤ _; exact Nat.le_of_eq rfl) (hb hby at_70) (fun _ _ => ⟨rfl, e9, (by decide : 1 + 0 ≤ _), (by decide : 6 + 0 ≤ _)⟩)
            dsimp only [Pt.U, Pt.locs, Pt.cells, Pt.slots] at X12 l12 y12 z12 st12 hQ12
            rw [l12] at X12
            subst y12 z12
            obtain ⟨rfl, Nq12, eh12⟩ := hQ12
            have N12 := Fr.app N9 Nq12
            refine own_go (fun _ k => st12 _ k) ?_
            show own_G _ _ _ (T12.setTop (mkF m 73 #[.val (.int p0), .val (.int p1), .val (.long p2), .second, .val (.int s6), .val (.int l6), .val (.int m6), .val (.ref b1), .unset, .unset, .unset, .unset, .unset, .unset, .unset, .unset] [(.int (own_ch (2 : Int32) s6 m6 l6 p2)), (.int (2 : Int32)), (.ref b1)])) _ _ _ _
            obtain ⟨u2, h_u2⟩ : ∃ z : Int32, z = (own_ch (2 : Int32) s6 m6 l6 p2) := ⟨_, rfl⟩
            · rw [← h_u2]
              show own_G _ _ _ (T12.setTop (mkF m 73 #[.val (.int p0), .val (.int p1), .val (.long p2), .second, .val (.int s6), .val (.int l6), .val (.int m6), .val (.ref b1), .unset, .unset, .unset, .unset, .unset, .unset, .unset, .unset] [(.int u2), (.int (2 : Int32)), (.ref b1)])) _ _ _ _
              obtain ⟨cl13, Ar13, q13, S13, Ng13, H13, G13⟩ := id f11
              have in13 : ¬ ((2 : Int32) < 0 ∨ cl13.slots.size ≤ ((2 : Int32)).toNatClampNeg) := inb_of S13 ⟨by decide, by decide⟩
              obtain ⟨T13, h13, X13, e13, W13, st13⟩ := stC X12 hx hZ eh12 Ar13 (j := (2 : Int32)) in13 (g := (mkF m 73 #[.val (.int p0), .val (.int p1), .val (.long p2), .second, .val (.int s6), .val (.int l6), .val (.int m6), .val (.ref b1), .unset, .unset, .unset, .unset, .unset, .unset, .unset, .unset] [(.int u2), (.int (2 : Int32)), (.ref b1)])) rfl rfl (hb hby at_73)
              have N13 := Fr.snoc X13 N12 gg1
              have Zs13 : n0 ≤ h13.size := Nat.le_trans Zs9 (Keep.of_wr W13).1
              have K13_0 : Keep h0 h13 [] := K9_0.wr W13 (Or.inr sz1_0)
              have f14 : Old Z n0 h13 := f10.wr W13 gg1
              have f15 : Arv Z h13 b1 k1 .char (6 : Int32) [(.int (nar .char u0)), (.int (nar .char u1)), (.int (nar .char u2)), (.int (0 : Int32)), (.int (0 : Int32)), (.int (0 : Int32))] (.int (0 : Int32)) := Arv.set Ar13 q13 S13 Ng13 H13 G13 (fits_nar_char _) W13 2 rfl (Nat.le_of_ble_eq_true rfl)
              refine own_go (fun _ k => st13 _ k) ?_
              show own_G _ _ _ (T13.setTop (mkF m 74 #[.val (.int p0), .val (.int p1), .val (.long p2), .second, .val (.int s6), .val (.int l6), .val (.int m6), .val (.ref b1), .unset, .unset, .unset, .unset, .unset, .unset, .unset, .unset] [])) _ _ _ _
              refine own_go (fun _ k => XS.aload X13.here hx rfl (hb hby at_74) rfl rfl k) ?_
              show own_G _ _ _ (T13.setTop (mkF m 76 #[.val (.int p0), .val (.int p1), .val (.long p2), .second, .val (.int s6), .val (.int l6), .val (.int m6), .val (.ref b1), .unset, .unset, .unset, .unset, .unset, .unset, .unset, .unset] [(.ref b1)])) _ _ _ _
              refine own_go (fun _ k => XS.iconst X13.here hx rfl (hb hby at_76) k) ?_
              show own_G _ _ _ (T13.setTop (mkF m 77 #[.val (.int p0), .val (.int p1), .val (.long p2), .second, .val (.int s6), .val (.int l6), .val (.int m6), .val (.ref b1), .unset, .unset, .unset, .unset, .unset, .unset, .unset, .unset] [(.int (3 : Int32)), (.ref b1)])) _ _ _ _
              refine own_go (fun _ k => XS.iconst X13.here hx rfl (hb hby at_77) k) ?_
              show own_G _ _ _ (T13.setTop (mkF m 78 #[.val (.int p0), .val (.int p1), .val (.long p2), .second, .val (.int s6), .val (.int l6), .val (.int m6), .val (.ref b1), .unset, .unset, .unset, .unset, .unset, .unset, .unset, .unset] [(.int (3 : Int32)), (.int (3 : Int32)), (.ref b1)])) _ _ _ _
              refine own_go (fun _ k => XS.iload X13.here hx rfl (hb hby at_78) rfl k) ?_
              show own_G _ _ _ (T13.setTop (mkF m 80 #[.val (.int p0), .val (.int p1), .val (.long p2), .second, .val (.int s6), .val (.int l6), .val (.int m6), .val (.ref b1), .unset, .unset, .unset, .unset, .unset, .unset, .unset, .unset] [(.int s6), (.int (3 : Int32)), (.int (3 : Int32)), (.ref b1)])) _ _ _ _
              refine own_go (fun _ k => XS.iload X13.here hx rfl (hb hby at_80) rfl k) ?_
              show own_G _ _ _ (T13.setTop (mkF m 82 #[.val (.int p0), .val (.int p1), .val (.long p2), .second, .val (.int s6), .val (.int l6), .val (.int m6), .val (.ref b1), .unset, .unset, .unset, .unset, .unset, .unset, .unset, .unset] [(.int m6), (.int s6), (.int (3 : Int32)), (.int (3 : Int32)), (.ref b1)])) _ _ _ _
              refine own_go (fun _ k => XS.iload X13.here hx rfl (hb hby at_82) rfl k) ?_
              show own_G _ _ _ (T13.setTop (mkF m 84 #[.val (.int p0), .val (.int p1), .val (.long p2), .second, .val (.int s6), .val (.int l6), .val (.int m6), .val (.ref b1), .unset, .unset, .unset, .unset, .unset, .unset, .unset, .unset] [(.int l6), (.int m6), (.int s6), (.int (3 : Int32)), (.int (3 : Int32)), (.ref b1)])) _ _ _ _
              refine own_go (fun _ k => XS.lloadN X13.here hx rfl (hb hby at_84) rfl k) ?_
              show own_G _ _ _ (T13.setTop (mkF m 85 #[.val (.int p0), .val (.int p1), .val (.long p2), .second, .val (.int s6), .val (.int l6), .val (.int m6), .val (.ref b1), .unset, .unset, .unset, .unset, .unset, .unset, .unset, .unset] [(.long p2), (.int l6), (.int m6), (.int s6), (.int (3 : Int32)), (.int (3 : Int32)), (.ref b1)])) _ _ _ _
              obtain ⟨_, _, ⟨T16, L16, k16, n16⟩, -, X16, ⟨Lc16, hQ16, l16, y16, z16⟩, st16⟩ := Jvm.LawKit.callS X13 hx (y := (⟨"com/example/hence/hence/reasoning/DecimalIsIntegerPinLaw", "ch", "(IIIIJ)C"⟩ : MethodName)) hown (mvT hZ (hw _ (List.mem_of_getElem? (i := 2) rfl))) (mvT hZ (hw _ (List.mem_of_getElem? (i := 3) rfl))) (mvT hZ (hw _ (List.mem_of_getElem? (i := 4) rfl))) (mvT hZ (hw _ (List.mem_of_getElem? (i := 5) rfl))) (by decide) (backOf (W := 2) (rm1 l Z a0 hw [] (3 : Int32) s6 m6 l6 p2 h13 n0) hZ (hw _ (List.mem_of_getElem? (i := 5) rfl)) (hw _ (List.mem_of_getElem? (i := 4) rfl)) (by decide) (by decide)) (g := (mkF m 85 #[.val (.int p0), .val (.int p1), .val (.long p2), .second, .val (.int s6), .val (.int l6), .val (.int m6), .val (.ref b1), .unset, .unset, .unset, .unset, .unset, .unset, .unset, .unset] [(.long p2), (.int l6), (.int m6), (.int s6), (.int (3 : Int32)), (.int (3 : Int32)), (.ref b1)])) rfl (by rw [hml]; rfl) (argsL := [(.int (3 : Int32)), (.int s6), (.int m6), (.int l6), (.long p2)]) (rest := [(.int (3 : Int32)), (.ref b1)]) (lenOf pd_8 rfl) rfl (by show 2 * 0 + _ ≤ _; exact Nat.le_of_eq rfl) (hb hby at_85) (fun _ _ => ⟨rfl, e13, (by decide : 1 + 0 ≤ _), (by decide : 6 + 0 ≤ _)⟩)
              dsimp only [Pt.U, Pt.locs, Pt.cells, Pt.slots] at X16 l16 y16 z16 st16 hQ16
              rw [l16] at X16
              subst y16 z16
              obtain ⟨rfl, Nq16, eh16⟩ := hQ16
              have N16 := Fr.app N13 Nq16
              refine own_go (fun _ k => st16 _ k) ?_
              show own_G _ _ _ (T16.setTop (mkF m 88 #[.val (.int p0), .val (.int p1), .val (.long p2), .second, .val (.int s6), .val (.int l6), .val (.int m6), .val (.ref b1), .unset, .unset, .unset, .unset, .unset, .unset, .unset, .unset] [(.int (own_ch (3 : Int32) s6 m6 l6 p2)), (.int (3 : Int32)), (.ref b1)])) _ _ _ _
              obtain ⟨u3, h_u3⟩ : ∃ z : Int32, z = (own_ch (3 : Int32) s6 m6 l6 p2) := ⟨_, rfl⟩
              · rw [← h_u3]
                show own_G _ _ _ (T16.setTop (mkF m 88 #[.val (.int p0), .val (.int p1), .val (.long p2), .second, .val (.int s6), .val (.int l6), .val (.int m6), .val (.ref b1), .unset, .unset, .unset, .unset, .unset, .unset, .unset, .unset] [(.int u3), (.int (3 : Int32)), (.ref b1)])) _ _ _ _
                obtain ⟨cl17, Ar17, q17, S17, Ng17, H17, G17⟩ := id f15
                have in17 : ¬ ((3 : Int32) < 0 ∨ cl17.slots.size ≤ ((3 : Int32)).toNatClampNeg) := inb_of S17 ⟨by decide, by decide⟩
                obtain ⟨T17, h17, X17, e17, W17, st17⟩ := stC X16 hx hZ eh16 Ar17 (j := (3 : Int32)) in17 (g := (mkF m 88 #[.val (.int p0), .val (.int p1), .val (.long p2), .second, .val (.int s6), .val (.int l6), .val (.int m6), .val (.ref b1), .unset, .unset, .unset, .unset, .unset, .unset, .unset, .unset] [(.int u3), (.int (3 : Int32)), (.ref b1)])) rfl rfl (hb hby at_88)
                have N17 := Fr.snoc X17 N16 gg1
                have Zs17 : n0 ≤ h17.size := Nat.le_trans Zs13 (Keep.of_wr W17).1
                have K17_0 : Keep h0 h17 [] := K13_0.wr W17 (Or.inr sz1_0)
                have f18 : Old Z n0 h17 := f14.wr W17 gg1
                have f19 : Arv Z h17 b1 k1 .char (6 : Int32) [(.int (nar .char u0)), (.int (nar .char u1)), (.int (nar .char u2)), (.int (nar .char u3)), (.int (0 : Int32)), (.int (0 : Int32))] (.int (0 : Int32)) := Arv.set Ar17 q17 S17 Ng17 H17 G17 (fits_nar_char _) W17 3 rfl (Nat.le_of_ble_eq_true rfl)
                refine own_go (fun _ k => st17 _ k) ?_
                show own_G _ _ _ (T17.setTop (mkF m 89 #[.val (.int p0), .val (.int p1), .val (.long p2), .second, .val (.int s6), .val (.int l6), .val (.int m6), .val (.ref b1), .unset, .unset, .unset, .unset, .unset, .unset, .unset, .unset] [])) _ _ _ _
                refine own_go (fun _ k => XS.aload X17.here hx rfl (hb hby at_89) rfl rfl k) ?_
                show own_G _ _ _ (T17.setTop (mkF m 91 #[.val (.int p0), .val (.int p1), .val (.long p2), .second, .val (.int s6), .val (.int l6), .val (.int m6), .val (.ref b1), .unset, .unset, .unset, .unset, .unset, .unset, .unset, .unset] [(.ref b1)])) _ _ _ _
                refine own_go (fun _ k => XS.iconst X17.here hx rfl (hb hby at_91) k) ?_
                show own_G _ _ _ (T17.setTop (mkF m 92 #[.val (.int p0), .val (.int p1), .val (.long p2), .second, .val (.int s6), .val (.int l6), .val (.int m6), .val (.ref b1), .unset, .unset, .unset, .unset, .unset, .unset, .unset, .unset] [(.int (4 : Int32)), (.ref b1)])) _ _ _ _
                refine own_go (fun _ k => XS.iconst X17.here hx rfl (hb hby at_92) k) ?_
                show own_G _ _ _ (T17.setTop (mkF m 93 #[.val (.int p0), .val (.int p1), .val (.long p2), .second, .val (.int s6), .val (.int l6), .val (.int m6), .val (.ref b1), .unset, .unset, .unset, .unset, .unset, .unset, .unset, .unset] [(.int (4 : Int32)), (.int (4 : Int32)), (.ref b1)])) _ _ _ _
                refine own_go (fun _ k => XS.iload X17.here hx rfl (hb hby at_93) rfl k) ?_
                show own_G _ _ _ (T17.setTop (mkF m 95 #[.val (.int p0), .val (.int p1), .val (.long p2), .second, .val (.int s6), .val (.int l6), .val (.int m6), .val (.ref b1), .unset, .unset, .unset, .unset, .unset, .unset, .unset, .unset] [(.int s6), (.int (4 : Int32)), (.int (4 : Int32)), (.ref b1)])) _ _ _ _
                refine own_go (fun _ k => XS.iload X17.here hx rfl (hb hby at_95) rfl k) ?_
                show own_G _ _ _ (T17.setTop (mkF m 97 #[.val (.int p0), .val (.int p1), .val (.long p2), .second, .val (.int s6), .val (.int l6), .val (.int m6), .val (.ref b1), .unset, .unset, .unset, .unset, .unset, .unset, .unset, .unset] [(.int m6), (.int s6), (.int (4 : Int32)), (.int (4 : Int32)), (.ref b1)])) _ _ _ _
                refine own_go (fun _ k => XS.iload X17.here hx rfl (hb hby at_97) rfl k) ?_
                show own_G _ _ _ (T17.setTop (mkF m 99 #[.val (.int p0), .val (.int p1), .val (.long p2), .second, .val (.int s6), .val (.int l6), .val (.int m6), .val (.ref b1), .unset, .unset, .unset, .unset, .unset, .unset, .unset, .unset] [(.int l6), (.int m6), (.int s6), (.int (4 : Int32)), (.int (4 : Int32)), (.ref b1)])) _ _ _ _
                refine own_go (fun _ k => XS.lloadN X17.here hx rfl (hb hby at_99) rfl k) ?_
                show own_G _ _ _ (T17.setTop (mkF m 100 #[.val (.int p0), .val (.int p1), .val (.long p2), .second, .val (.int s6), .val (.int l6), .val (.int m6), .val (.ref b1), .unset, .unset, .unset, .unset, .unset, .unset, .unset, .unset] [(.long p2), (.int l6), (.int m6), (.int s6), (.int (4 : Int32)), (.int (4 : Int32)), (.ref b1)])) _ _ _ _
                obtain ⟨_, _, ⟨T20, L20, k20, n20⟩, -, X20, ⟨Lc20, hQ20, l20, y20, z20⟩, st20⟩ := Jvm.LawKit.callS X17 hx (y := (⟨"com/example/hence/hence/reasoning/DecimalIsIntegerPinLaw", "ch", "(IIIIJ)C"⟩ : MethodName)) hown (mvT hZ (hw _ (List.mem_of_getElem? (i := 2) rfl))) (mvT hZ (hw _ (List.mem_of_getElem? (i := 3) rfl))) (mvT hZ (hw _ (List.mem_of_getElem? (i := 4) rfl))) (mvT hZ (hw _ (List.mem_of_getElem? (i := 5) rfl))) (by decide) (backOf (W := 2) (rm1 l Z a0 hw [] (4 : Int32) s6 m6 l6 p2 h17 n0) hZ (hw _ (List.mem_of_getElem? (i := 5) rfl)) (hw _ (List.mem_of_getElem? (i := 4) rfl)) (by decide) (by decide)) (g := (mkF m 100 #[.val (.int p0), .val (.int p1), .val (.long p2), .second, .val (.int s6), .val (.int l6), .val (.int m6), .val (.ref b1), .unset, .unset, .unset, .unset, .unset, .unset, .unset, .unset] [(.long p2), (.int l6), (.int m6), (.int s6), (.int (4 : Int32)), (.int (4 : Int32)), (.ref b1)])) rfl (by rw [hml]; rfl) (argsL := [(.int (4 : Int32)), (.int s6), (.int m6), (.int l6), (.long p2)]) (rest := [(.int (4 : Int32)), (.ref b1)]) (lenOf pd_8 rfl) rfl (by show 2 * 0 + _ ≤ _; exact Nat.le_of_eq rfl) (hb hby at_100) (fun _ _ => ⟨rfl, e17, (by decide : 1 + 0 ≤ _), (by decide : 6 + 0 ≤ _)⟩)
                dsimp only [Pt.U, Pt.locs, Pt.cells, Pt.slots] at X20 l20 y20 z20 st20 hQ20
                rw [l20] at X20
                subst y20 z20
                obtain ⟨rfl, Nq20, eh20⟩ := hQ20
                have N20 := Fr.app N17 Nq20
                refine own_go (fun _ k => st20 _ k) ?_
                show own_G _ _ _ (T20.setTop (mkF m 103 #[.val (.int p0), .val (.int p1), .val (.long p2), .second, .val (.int s6), .val (.int l6), .val (.int m6), .val (.ref b1), .unset, .unset, .unset, .unset, .unset, .unset, .unset, .unset] [(.int (own_ch (4 : Int32) s6 m6 l6 p2)), (.int (4 : Int32)), (.ref b1)])) _ _ _ _
                obtain ⟨u4, h_u4⟩ : ∃ z : Int32, z = (own_ch (4 : Int32) s6 m6 l6 p2) := ⟨_, rfl⟩
                · rw [← h_u4]
                  show own_G _ _ _ (T20.setTop (mkF m 103 #[.val (.int p0), .val (.int p1), .val (.long p2), .second, .val (.int s6), .val (.int l6), .val (.int m6), .val (.ref b1), .unset, .unset, .unset, .unset, .unset, .unset, .unset, .unset] [(.int u4), (.int (4 : Int32)), (.ref b1)])) _ _ _ _
                  obtain ⟨cl21, Ar21, q21, S21, Ng21, H21, G21⟩ := id f19
                  have in21 : ¬ ((4 : Int32) < 0 ∨ cl21.slots.size ≤ ((4 : Int32)).toNatClampNeg) := inb_of S21 ⟨by decide, by decide⟩
                  obtain ⟨T21, h21, X21, e21, W21, st21⟩ := stC X20 hx hZ eh20 Ar21 (j := (4 : Int32)) in21 (g := (mkF m 103 #[.val (.int p0), .val (.int p1), .val (.long p2), .second, .val (.int s6), .val (.int l6), .val (.int m6), .val (.ref b1), .unset, .unset, .unset, .unset, .unset, .unset, .unset, .unset] [(.int u4), (.int (4 : Int32)), (.ref b1)])) rfl rfl (hb hby at_103)
                  have N21 := Fr.snoc X21 N20 gg1
                  have Zs21 : n0 ≤ h21.size := Nat.le_trans Zs17 (Keep.of_wr W21).1
                  have K21_0 : Keep h0 h21 [] := K17_0.wr W21 (Or.inr sz1_0)
                  have f22 : Old Z n0 h21 := f18.wr W21 gg1
                  have f23 : Arv Z h21 b1 k1 .char (6 : Int32) [(.int (nar .char u0)), (.int (nar .char u1)), (.int (nar .char u2)), (.int (nar .char u3)), (.int (nar .char u4)), (.int (0 : Int32))] (.int (0 : Int32)) := Arv.set Ar21 q21 S21 Ng21 H21 G21 (fits_nar_char _) W21 4 rfl (Nat.le_of_ble_eq_true rfl)
                  refine own_go (fun _ k => st21 _ k) ?_
                  show own_G _ _ _ (T21.setTop (mkF m 104 #[.val (.int p0), .val (.int p1), .val (.long p2), .second, .val (.int s6), .val (.int l6), .val (.int m6), .val (.ref b1), .unset, .unset, .unset, .unset, .unset, .unset, .unset, .unset] [])) _ _ _ _
                  refine own_go (fun _ k => XS.aload X21.here hx rfl (hb hby at_104) rfl rfl k) ?_
                  show own_G _ _ _ (T21.setTop (mkF m 106 #[.val (.int p0), .val (.int p1), .val (.long p2), .second, .val (.int s6), .val (.int l6), .val (.int m6), .val (.ref b1), .unset, .unset, .unset, .unset, .unset, .unset, .unset, .unset] [(.ref b1)])) _ _ _ _
                  refine own_go (fun _ k => XS.iconst X21.here hx rfl (hb hby at_106) k) ?_
                  show own_G _ _ _ (T21.setTop (mkF m 107 #[.val (.int p0), .val (.int p1), .val (.long p2), .second, .val (.int s6), .val (.int l6), .val (.int m6), .val (.ref b1), .unset, .unset, .unset, .unset, .unset, .unset, .unset, .unset] [(.int (5 : Int32)), (.ref b1)])) _ _ _ _
                  refine own_go (fun _ k => XS.iconst X21.here hx rfl (hb hby at_107) k) ?_
                  show own_G _ _ _ (T21.setTop (mkF m 108 #[.val (.int p0), .val (.int p1), .val (.long p2), .second, .val (.int s6), .val (.int l6), .val (.int m6), .val (.ref b1), .unset, .unset, .unset, .unset, .unset, .unset, .unset, .unset] [(.int (5 : Int32)), (.int (5 : Int32)), (.ref b1)])) _ _ _ _
                  refine own_go (fun _ k => XS.iload X21.here hx rfl (hb hby at_108) rfl k) ?_
                  show own_G _ _ _ (T21.setTop (mkF m 110 #[.val (.int p0), .val (.int p1), .val (.long p2), .second, .val (.int s6), .val (.int l6), .val (.int m6), .val (.ref b1), .unset, .unset, .unset, .unset, .unset, .unset, .unset, .unset] [(.int s6), (.int (5 : Int32)), (.int (5 : Int32)), (.ref b1)])) _ _ _ _
                  refine own_go (fun _ k => XS.iload X21.here hx rfl (hb hby at_110) rfl k) ?_
                  show own_G _ _ _ (T21.setTop (mkF m 112 #[.val (.int p0), .val (.int p1), .val (.long p2), .second, .val (.int s6), .val (.int l6), .val (.int m6), .val (.ref b1), .unset, .unset, .unset, .unset, .unset, .unset, .unset, .unset] [(.int m6), (.int s6), (.int (5 : Int32)), (.int (5 : Int32)), (.ref b1)])) _ _ _ _
                  refine own_go (fun _ k => XS.iload X21.here hx rfl (hb hby at_112) rfl k) ?_
                  show own_G _ _ _ (T21.setTop (mkF m 114 #[.val (.int p0), .val (.int p1), .val (.long p2), .second, .val (.int s6), .val (.int l6), .val (.int m6), .val (.ref b1), .unset, .unset, .unset, .unset, .unset, .unset, .unset, .unset] [(.int l6), (.int m6), (.int s6), (.int (5 : Int32)), (.int (5 : Int32)), (.ref b1)])) _ _ _ _
                  refine own_go (fun _ k => XS.lloadN X21.here hx rfl (hb hby at_114) rfl k) ?_
                  show own_G _ _ _ (T21.setTop (mkF m 115 #[.val (.int p0), .val (.int p1), .val (.long p2), .second, .val (.int s6), .val (.int l6), .val (.int m6), .val (.ref b1), .unset, .unset, .unset, .unset, .unset, .unset, .unset, .unset] [(.long p2), (.int l6), (.int m6), (.int s6), (.int (5 : Int32)), (.int (5 : Int32)), (.ref b1)])) _ _ _ _
                  obtain ⟨_, _, ⟨T24, L24, k24, n24⟩, -, X24, ⟨Lc24, hQ24, l24, y24, z24⟩, st24⟩ := Jvm.LawKit.callS X21 hx (y := (⟨"com/example/hence/hence/reasoning/DecimalIsIntegerPinLaw", "ch", "(IIIIJ)C"⟩ : MethodName)) hown (mvT hZ (hw _ (List.mem_of_getElem? (i := 2) rfl))) (mvT hZ (hw _ (List.mem_of_getElem? (i := 3) rfl))) (mvT hZ (hw _ (List.mem_of_getElem? (i := 4) rfl))) (mvT hZ (hw _ (List.mem_of_getElem? (i := 5) rfl))) (by decide) (backOf (W := 2) (rm1 l Z a0 hw [] (5 : Int32) s6 m6 l6 p2 h21 n0) hZ (hw _ (List.mem_of_getElem? (i := 5) rfl)) (hw _ (List.mem_of_getElem? (i := 4) rfl)) (by decide) (by decide)) (g := (mkF m 115 #[.val (.int p0), .val (.int p1), .val (.long p2), .second, .val (.int s6), .val (.int l6), .val (.int m6), .val (.ref b1), .unset, .unset, .unset, .unset, .unset, .unset, .unset, .unset] [(.long p2), (.int l6), (.int m6), (.int s6), (.int (5 : Int32)), (.int (5 : Int32)), (.ref b1)])) rfl (by rw [hml]; rfl) (argsL := [(.int (5 : Int32)), (.int s6), (.int m6), (.int l6), (.long p2)]) (rest := [(.int (5 : Int32)), (.ref b1)]) (lenOf pd_8 rfl) rfl (by show 2 * 0 + _ ≤ _; exact Nat.le_of_eq rfl) (hb hby at_115) (fun _ _ => ⟨rfl, e21, (by decide : 1 + 0 ≤ _), (by decide : 6 + 0 ≤ _)⟩)
                  dsimp only [Pt.U, Pt.locs, Pt.cells, Pt.slots] at X24 l24 y24 z24 st24 hQ24
                  rw [l24] at X24
                  subst y24 z24
                  obtain ⟨rfl, Nq24, eh24⟩ := hQ24
                  have N24 := Fr.app N21 Nq24
                  refine own_go (fun _ k => st24 _ k) ?_
                  show own_G _ _ _ (T24.setTop (mkF m 118 #[.val (.int p0), .val (.int p1), .val (.long p2), .second, .val (.int s6), .val (.int l6), .val (.int m6), .val (.ref b1), .unset, .unset, .unset, .unset, .unset, .unset, .unset, .unset] [(.int (own_ch (5 : Int32) s6 m6 l6 p2)), (.int (5 : Int32)), (.ref b1)])) _ _ _ _
                  obtain ⟨u5, h_u5⟩ : ∃ z : Int32, z = (own_ch (5 : Int32) s6 m6 l6 p2) := ⟨_, rfl⟩
                  · rw [← h_u5]
                    show own_G _ _ _ (T24.setTop (mkF m 118 #[.val (.int p0), .val (.int p1), .val (.long p2), .second, .val (.int s6), .val (.int l6), .val (.int m6), .val (.ref b1), .unset, .unset, .unset, .unset, .unset, .unset, .unset, .unset] [(.int u5), (.int (5 : Int32)), (.ref b1)])) _ _ _ _
                    obtain ⟨cl25, Ar25, q25, S25, Ng25, H25, G25⟩ := id f23
                    have in25 : ¬ ((5 : Int32) < 0 ∨ cl25.slots.size ≤ ((5 : Int32)).toNatClampNeg) := inb_of S25 ⟨by decide, by decide⟩
                    obtain ⟨T25, h25, X25, e25, W25, st25⟩ := stC X24 hx hZ eh24 Ar25 (j := (5 : Int32)) in25 (g := (mkF m 118 #[.val (.int p0), .val (.int p1), .val (.long p2), .second, .val (.int s6), .val (.int l6), .val (.int m6), .val (.ref b1), .unset, .unset, .unset, .unset, .unset, .unset, .unset, .unset] [(.int u5), (.int (5 : Int32)), (.ref b1)])) rfl rfl (hb hby at_118)
                    have N25 := Fr.snoc X25 N24 gg1
                    have Zs25 : n0 ≤ h25.size := Nat.le_trans Zs21 (Keep.of_wr W25).1
                    have K25_0 : Keep h0 h25 [] := K21_0.wr W25 (Or.inr sz1_0)
                    have f26 : Old Z n0 h25 := f22.wr W25 gg1
                    have f27 : Arv Z h25 b1 k1 .char (6 : Int32) [(.int (nar .char u0)), (.int (nar .char u1)), (.int (nar .char u2)), (.int (nar .char u3)), (.int (nar .char u4)), (.int (nar .char u5))] (.int (0 : Int32)) := Arv.set Ar25 q25 S25 Ng25 H25 G25 (fits_nar_char _) W25 5 rfl (Nat.le_of_ble_eq_true rfl)
                    refine own_go (fun _ k => st25 _ k) ?_
                    show own_G _ _ _ (T25.setTop (mkF m 119 #[.val (.int p0), .val (.int p1), .val (.long p2), .second, .val (.int s6), .val (.int l6), .val (.int m6), .val (.ref b1), .unset, .unset, .unset, .unset, .unset, .unset, .unset, .unset] [])) _ _ _ _
                    refine own_go (fun _ k => XS.iloadN X25.here hx rfl (hb hby at_119) rfl k) ?_
                    show own_G _ _ _ (T25.setTop (mkF m 120 #[.val (.int p0), .val (.int p1), .val (.long p2), .second, .val (.int s6), .val (.int l6), .val (.int m6), .val (.ref b1), .unset, .unset, .unset, .unset, .unset, .unset, .unset, .unset] [(.int p0)])) _ _ _ _
                    refine own_go (fun _ k => XS.iconst X25.here hx rfl (hb hby at_120) k) ?_
                    show own_G _ _ _ (T25.setTop (mkF m 121 #[.val (.int p0), .val (.int p1), .val (.long p2), .second, .val (.int s6), .val (.int l6), .val (.int m6), .val (.ref b1), .unset, .unset, .unset, .unset, .unset, .unset, .unset, .unset] [(.int (1 : Int32)), (.int p0)])) _ _ _ _
                    refine own_go (fun _ k => XS.iushr X25.here hx rfl (hb hby at_121) rfl k) ?_
                    show own_G _ _ _ (T25.setTop (mkF m 122 #[.val (.int p0), .val (.int p1), .val (.long p2), .second, .val (.int s6), .val (.int l6), .val (.int m6), .val (.ref b1), .unset, .unset, .unset, .unset, .unset, .unset, .unset, .unset] [(.int ((p0.toUInt32 >>> ((1 : Int32) &&& 31).toUInt32).toInt32))])) _ _ _ _
                    refine own_go (fun _ k => XS.iconst X25.here hx rfl (hb hby at_122) k) ?_
                    show own_G _ _ _ (T25.setTop (mkF m 123 #[.val (.int p0), .val (.int p1), .val (.long p2), .second, .val (.int s6), .val (.int l6), .val (.int m6), .val (.ref b1), .unset, .unset, .unset, .unset, .unset, .unset, .unset, .unset] [(.int (1 : Int32)), (.int ((p0.toUInt32 >>> ((1 : Int32) &&& 31).toUInt32).toInt32))])) _ _ _ _
                    refine own_go (fun _ k => XS.iand X25.here hx rfl (hb hby at_123) rfl k) ?_
                    show own_G _ _ _ (T25.setTop (mkF m 124 #[.val (.int p0), .val (.int p1), .val (.long p2), .second, .val (.int s6), .val (.int l6), .val (.int m6), .val (.ref b1), .unset, .unset, .unset, .unset, .unset, .unset, .unset, .unset] [(.int (((p0.toUInt32 >>> ((1 : Int32) &&& 31).toUInt32).toInt32) &&& (1 : Int32)))])) _ _ _ _
                    obtain ⟨s3, h_s3⟩ : ∃ z : Int32, z = (((p0.toUInt32 >>> ((1 : Int32) &&& 31).toUInt32).toInt32) &&& (1 : Int32)) := ⟨_, rfl⟩
                    · rw [← h_s3]
                      show own_G _ _ _ (T25.setTop (mkF m 124 #[.val (.int p0), .val (.int p1), .val (.long p2), .second, .val (.int s6), .val (.int l6), .val (.int m6), .val (.ref b1), .unset, .unset, .unset, .unset, .unset, .unset, .unset, .unset] [(.int s3)])) _ _ _ _
                      refine own_go (fun _ k => XS.istore X25.here hx rfl (hb hby at_124) rfl (l' := #[.val (.int p0), .val (.int p1), .val (.long p2), .second, .val (.int s6), .val (.int l6), .val (.int m6), .val (.ref b1), .val (.int s3), .unset, .unset, .unset, .unset, .unset, .unset, .unset]) rfl k) ?_
                      show own_G _ _ _ (T25.setTop (mkF m 126 #[.val (.int p0), .val (.int p1), .val (.long p2), .second, .val (.int s6), .val (.int l6), .val (.int m6), .val (.ref b1), .val (.int s3), .unset, .unset, .unset, .unset, .unset, .unset, .unset] [])) _ _ _ _
                      refine own_go (fun _ k => XS.iconst X25.here hx rfl (hb hby at_126) k) ?_
                      show own_G _ _ _ (T25.setTop (mkF m 127 #[.val (.int p0), .val (.int p1), .val (.long p2), .second, .val (.int s6), .val (.int l6), .val (.int m6), .val (.ref b1), .val (.int s3), .unset, .unset, .unset, .unset, .unset, .unset, .unset] [(.int (3 : Int32))])) _ _ _ _
                      refine own_go (fun _ k => XS.iload X25.here hx rfl (hb hby at_127) rfl k) ?_
                      show own_G _ _ _ (T25.setTop (mkF m 129 #[.val (.int p0), .val (.int p1), .val (.long p2), .second, .val (.int s6), .val (.int l6), .val (.int m6), .val (.ref b1), .val (.int s3), .unset, .unset, .unset, .unset, .unset, .unset, .unset] [(.int s3), (.int (3 : Int32))])) _ _ _ _
                      refine own_go (fun _ k => XS.isub X25.here hx rfl (hb hby at_129) rfl k) ?_
                      show own_G _ _ _ (T25.setTop (mkF m 130 #[.val (.int p0), .val (.int p1), .val (.long p2), .second, .val (.int s6), .val (.int l6), .val (.int m6), .val (.ref b1), .val (.int s3), .unset, .unset, .unset, .unset, .unset, .unset, .unset] [(.int ((3 : Int32) - s3))])) _ _ _ _
                      obtain ⟨l3, h_l3⟩ : ∃ z : Int32, z = ((3 : Int32) - s3) := ⟨_, rfl⟩
                      · rw [← h_l3]
                        show own_G _ _ _ (T25.setTop (mkF m 130 #[.val (.int p0), .val (.int p1), .val (.long p2), .second, .val (.int s6), .val (.int l6), .val (.int m6), .val (.ref b1), .val (.int s3), .unset, .unset, .unset, .unset, .unset, .unset, .unset] [(.int l3)])) _ _ _ _
                        refine own_go (fun _ k => XS.istore X25.here hx rfl (hb hby at_130) rfl (l' := #[.val (.int p0), .val (.int p1), .val (.long p2), .second, .val (.int s6), .val (.int l6), .val (.int m6), .val (.ref b1), .val (.int s3), .val (.int l3), .unset, .unset, .unset, .unset, .unset, .unset]) rfl k) ?_
                        show own_G _ _ _ (T25.setTop (mkF m 132 #[.val (.int p0), .val (.int p1), .val (.long p2), .second, .val (.int s6), .val (.int l6), .val (.int m6), .val (.ref b1), .val (.int s3), .val (.int l3), .unset, .unset, .unset, .unset, .unset, .unset] [])) _ _ _ _
                        refine own_go (fun _ k => XS.iloadN X25.here hx rfl (hb hby at_132) rfl k) ?_
                        show own_G _ _ _ (T25.setTop (mkF m 133 #[.val (.int p0), .val (.int p1), .val (.long p2), .second, .val (.int s6), .val (.int l6), .val (.int m6), .val (.ref b1), .val (.int s3), .val (.int l3), .unset, .unset, .unset, .unset, .unset, .unset] [(.int p1)])) _ _ _ _
                        refine own_go (fun _ k => XS.bipush X25.here hx rfl (hb hby at_133) k) ?_
                        show own_G _ _ _ (T25.setTop (mkF m 135 #[.val (.int p0), .val (.int p1), .val (.long p2), .second, .val (.int s6), .val (.int l6), .val (.int m6), .val (.ref b1), .val (.int s3), .val (.int l3), .unset, .unset, .unset, .unset, .unset, .unset] [(.int (8 : Int32)), (.int p1)])) _ _ _ _
                        refine own_go (fun _ k => XS.iushr X25.here hx rfl (hb hby at_135) rfl k) ?_
                        show own_G _ _ _ (T25.setTop (mkF m 136 #[.val (.int p0), .val (.int p1), .val (.long p2), .second, .val (.int s6), .val (.int l6), .val (.int m6), .val (.ref b1), .val (.int s3), .val (.int l3), .unset, .unset, .unset, .unset, .unset, .unset] [(.int ((p1.toUInt32 >>> ((8 : Int32) &&& 31).toUInt32).toInt32))])) _ _ _ _
                        refine own_go (fun _ k => X25.ldcInt hx hown (mvT hZ (hw _ (List.mem_of_getElem? (i := 7) rfl))) (g := (mkF m 136 #[.val (.int p0), .val (.int p1), .val (.long p2), .second, .val (.int s6), .val (.int l6), .val (.int m6), .val (.ref b1), .val (.int s3), .val (.int l3), .unset, .unset, .unset, .unset, .unset, .unset] [(.int ((p1.toUInt32 >>> ((8 : Int32) &&& 31).toUInt32).toInt32))])) rfl (hb hby at_136) _ k) ?_
                        show own_G _ _ _ (T25.setTop (mkF m 138 #[.val (.int p0), .val (.int p1), .val (.long p2), .second, .val (.int s6), .val (.int l6), .val (.int m6), .val (.ref b1), .val (.int s3), .val (.int l3), .unset, .unset, .unset, .unset, .unset, .unset] [(.int (8388607 : Int32)), (.int ((p1.toUInt32 >>> ((8 : Int32) &&& 31).toUInt32).toInt32))])) _ _ _ _
                        refine own_go (fun _ k => XS.iand X25.here hx rfl (hb hby at_138) rfl k) ?_
                        show own_G _ _ _ (T25.setTop (mkF m 139 #[.val (.int p0), .val (.int p1), .val (.long p2), .second, .val (.int s6), .val (.int l6), .val (.int m6), .val (.ref b1), .val (.int s3), .val (.int l3), .unset, .unset, .unset, .unset, .unset, .unset] [(.int (((p1.toUInt32 >>> ((8 : Int32) &&& 31).toUInt32).toInt32) &&& (8388607 : Int32)))])) _ _ _ _
                        refine own_go (fun _ k => XS.iload X25.here hx rfl (hb hby at_139) rfl k) ?_
                        show own_G _ _ _ (T25.setTop (mkF m 141 #[.val (.int p0), .val (.int p1), .val (.long p2), .second, .val (.int s6), .val (.int l6), .val (.int m6), .val (.ref b1), .val (.int s3), .val (.int l3), .unset, .unset, .unset, .unset, .unset, .unset] [(.int l3), (.int (((p1.toUInt32 >>> ((8 : Int32) &&& 31).toUInt32).toInt32) &&& (8388607 : Int32)))])) _ _ _ _
                        refine own_go (fun _ k => XS.iconst X25.here hx rfl (hb hby at_141) k) ?_
                        show own_G _ _ _ (T25.setTop (mkF m 142 #[.val (.int p0), .val (.int p1), .val (.long p2), .second, .val (.int s6), .val (.int l6), .val (.int m6), .val (.ref b1), .val (.int s3), .val (.int l3), .unset, .unset, .unset, .unset, .unset, .unset] [(.int (1 : Int32)), (.int l3), (.int (((p1.toUInt32 >>> ((8 : Int32) &&& 31).toUInt32).toInt32) &&& (8388607 : Int32)))])) _ _ _ _
                        refine own_go (fun _ k => XS.isub X25.here hx rfl (hb hby at_142) rfl k) ?_
                        show own_G _ _ _ (T25.setTop (mkF m 143 #[.val (.int p0), .val (.int p1), .val (.long p2), .second, .val (.int s6), .val (.int l6), .val (.int m6), .val (.ref b1), .val (.int s3), .val (.int l3), .unset, .unset, .unset, .unset, .unset, .unset] [(.int (l3 - (1 : Int32))), (.int (((p1.toUInt32 >>> ((8 : Int32) &&& 31).toUInt32).toInt32) &&& (8388607 : Int32)))])) _ _ _ _
                        refine own_go (fun _ k => iremM X25 hx rfl (hb hby at_143) rfl (own_nz3 _ s3 l3 h_s3 h_l3) k) ?_
                        show own_G _ _ _ (T25.setTop (mkF m 144 #[.val (.int p0), .val (.int p1), .val (.long p2), .second, .val (.int s6), .val (.int l6), .val (.int m6), .val (.ref b1), .val (.int s3), .val (.int l3), .unset, .unset, .unset, .unset, .unset, .unset] [(.int ((((p1.toUInt32 >>> ((8 : Int32) &&& 31).toUInt32).toInt32) &&& (8388607 : Int32)) % (l3 - (1 : Int32))))])) _ _ _ _
                        obtain ⟨m3, h_m3⟩ : ∃ z : Int32, z = ((((p1.toUInt32 >>> ((8 : Int32) &&& 31).toUInt32).toInt32) &&& (8388607 : Int32)) % (l3 - (1 : Int32))) := ⟨_, rfl⟩
                        · rw [← h_m3]
                          have H3 := own_law3 p0 p1 s3 l3 m3 h_s3 h_l3 h_m3
                          show own_G _ _ _ (T25.setTop (mkF m 144 #[.val (.int p0), .val (.int p1), .val (.long p2), .second, .val (.int s6), .val (.int l6), .val (.int m6), .val (.ref b1), .val (.int s3), .val (.int l3), .unset, .unset, .unset, .unset, .unset, .unset] [(.int m3)])) _ _ _ _
                          refine own_go (fun _ k => XS.istore X25.here hx rfl (hb hby at_144) rfl (l' := #[.val (.int p0), .val (.int p1), .val (.long p2), .second, .val (.int s6), .val (.int l6), .val (.int m6), .val (.ref b1), .val (.int s3), .val (.int l3), .val (.int m3), .unset, .unset, .unset, .unset, .unset]) rfl k) ?_
                          show own_G _ _ _ (T25.setTop (mkF m 146 #[.val (.int p0), .val (.int p1), .val (.long p2), .second, .val (.int s6), .val (.int l6), .val (.int m6), .val (.ref b1), .val (.int s3), .val (.int l3), .val (.int m3), .unset, .unset, .unset, .unset, .unset] [])) _ _ _ _
                          refine own_go (fun _ k => XS.lloadN X25.here hx rfl (hb hby at_146) rfl k) ?_
                          show own_G _ _ _ (T25.setTop (mkF m 147 #[.val (.int p0), .val (.int p1), .val (.long p2), .second, .val (.int s6), .val (.int l6), .val (.int m6), .val (.ref b1), .val (.int s3), .val (.int l3), .val (.int m3), .unset, .unset, .unset, .unset, .unset] [(.long p2)])) _ _ _ _
                          refine own_go (fun _ k => XS.bipush X25.here hx rfl (hb hby at_147) k) ?_
                          show own_G _ _ _ (T25.setTop (mkF m 149 #[.val (.int p0), .val (.int p1), .val (.long p2), .second, .val (.int s6), .val (.int l6), .val (.int m6), .val (.ref b1), .val (.int s3), .val (.int l3), .val (.int m3), .unset, .unset, .unset, .unset, .unset] [(.int (24 : Int32)), (.long p2)])) _ _ _ _
                          refine own_go (fun _ k => XS.lushr X25.here hx rfl (hb hby at_149) rfl k) ?_
                          show own_G _ _ _ (T25.setTop (mkF m 150 #[.val (.int p0), .val (.int p1), .val (.long p2), .second, .val (.int s6), .val (.int l6), .val (.int m6), .val (.ref b1), .val (.int s3), .val (.int l3), .val (.int m3), .unset, .unset, .unset, .unset, .unset] [(.long ((p2.toUInt64 >>> ((24 : Int32) &&& 0x3f).toInt64.toUInt64).toInt64))])) _ _ _ _
                          refine own_go (fun _ k => XS.lstore X25.here hx rfl (hb hby at_150) rfl (l' := #[.val (.int p0), .val (.int p1), .val (.long p2), .second, .val (.int s6), .val (.int l6), .val (.int m6), .val (.ref b1), .val (.int s3), .val (.int l3), .val (.int m3), .val (.long ((p2.toUInt64 >>> ((24 : Int32) &&& 0x3f).toInt64.toUInt64).toInt64)), .second, .unset, .unset, .unset]) rfl k) ?_
                          show own_G _ _ _ (T25.setTop (mkF m 152 #[.val (.int p0), .val (.int p1), .val (.long p2), .second, .val (.int s6), .val (.int l6), .val (.int m6), .val (.ref b1), .val (.int s3), .val (.int l3), .val (.int m3), .val (.long ((p2.toUInt64 >>> ((24 : Int32) &&& 0x3f).toInt64.toUInt64).toInt64)), .second, .unset, .unset, .unset] [])) _ _ _ _
                          refine own_go (fun _ k => XS.iconst X25.here hx rfl (hb hby at_152) k) ?_
                          show own_G _ _ _ (T25.setTop (mkF m 153 #[.val (.int p0), .val (.int p1), .val (.long p2), .second, .val (.int s6), .val (.int l6), .val (.int m6), .val (.ref b1), .val (.int s3), .val (.int l3), .val (.int m3), .val (.long ((p2.toUInt64 >>> ((24 : Int32) &&& 0x3f).toInt64.toUInt64).toInt64)), .second, .unset, .unset, .unset] [(.int (3 : Int32))])) _ _ _ _
                          obtain ⟨T28, h28, k28, X28, e28, E28, A28, st28⟩ := newP X25 hx hZ (hw _ (List.mem_of_getElem? (i := 1) rfl)) e25 (g := (mkF m 153 #[.val (.int p0), .val (.int p1), .val (.long p2), .second, .val (.int s6), .val (.int l6), .val (.int m6), .val (.ref b1), .val (.int s3), .val (.int l3), .val (.int m3), .val (.long ((p2.toUInt64 >>> ((24 : Int32) &&& 0x3f).toInt64.toUInt64).toInt64)), .second, .unset, .unset, .unset] [(.int (3 : Int32))])) rfl (hb hby at_153) rfl (by decide) (cap := 3) (by decide) (by decide) (by decide) (by decide)
                          obtain ⟨b28, g28⟩ : ∃ z, z = h25.size := ⟨_, rfl⟩
                          rw [← g28] at A28 st28
                          have ne29 : b1 ≠ b28 := Nat.ne_of_lt (Nat.lt_of_lt_of_le f27.lt (Nat.le_of_eq g28.symm))
                          have gg28 : n0 ≤ b28 := Nat.le_trans Zs25 (Nat.le_of_eq g28.symm)
                          have sz28_0 : h0.size ≤ b28 := Nat.le_trans K25_0.1 (Nat.le_of_eq g28.symm)
                          have Zs28 : n0 ≤ h28.size := Nat.le_trans Zs25 E28.1
                          have K28_0 : Keep h0 h28 [] := K25_0.ext E28
                          have f30 : Old Z n0 h28 := f26.ext E28
                          have f31 : Arv Z h28 b1 k1 .char (6 : Int32) [(.int (nar .char u0)), (.int (nar .char u1)), (.int (nar .char u2)), (.int (nar .char u3)), (.int (nar .char u4)), (.int (nar .char u5))] (.int (0 : Int32)) := f27.ext E28
                          have f32 : Arv Z h28 b28 k28 .char (3 : Int32) [(.int (0 : Int32)), (.int (0 : Int32)), (.int (0 : Int32))] (.int (0 : Int32)) := (Arv.new A28 (by decide)).pad (pad_rep [] (.int (0 : Int32)) 3)
                          refine own_go (fun _ k => st28 _ k) ?_
                          show own_G _ _ _ (T28.setTop (mkF m 155 #[.val (.int p0), .val (.int p1), .val (.long p2), .second, .val (.int s6), .val (.int l6), .val (.int m6), .val (.ref b1), .val (.int s3), .val (.int l3), .val (.int m3), .val (.long ((p2.toUInt64 >>> ((24 : Int32) &&& 0x3f).toInt64.toUInt64).toInt64)), .second, .unset, .unset, .unset] [(.ref b28)])) _ _ _ _
                          refine own_go (fun _ k => XS.astore X28.here hx rfl (hb hby at_155) rfl rfl (l' := #[.val (.int p0), .val (.int p1), .val (.long p2), .second, .val (.int s6), .val (.int l6), .val (.int m6), .val (.ref b1), .val (.int s3), .val (.int l3), .val (.int m3), .val (.long ((p2.toUInt64 >>> ((24 : Int32) &&& 0x3f).toInt64.toUInt64).toInt64)), .second, .val (.ref b28), .unset, .unset]) rfl k) ?_
                          show own_G _ _ _ (T28.setTop (mkF m 157 #[.val (.int p0), .val (.int p1), .val (.long p2), .second, .val (.int s6), .val (.int l6), .val (.int m6), .val (.ref b1), .val (.int s3), .val (.int l3), .val (.int m3), .val (.long ((p2.toUInt64 >>> ((24 : Int32) &&& 0x3f).toInt64.toUInt64).toInt64)), .second, .val (.ref b28), .unset, .unset] [])) _ _ _ _
                          refine own_go (fun _ k => XS.aload X28.here hx rfl (hb hby at_157) rfl rfl k) ?_
                          show own_G _ _ _ (T28.setTop (mkF m 159 #[.val (.int p0), .val (.int p1), .val (.long p2), .second, .val (.int s6), .val (.int l6), .val (.int m6), .val (.ref b1), .val (.int s3), .val (.int l3), .val (.int m3), .val (.long ((p2.toUInt64 >>> ((24 : Int32) &&& 0x3f).toInt64.toUInt64).toInt64)), .second, .val (.ref b28), .unset, .unset] [(.ref b28)])) _ _ _ _
                          refine own_go (fun _ k => XS.iconst X28.here hx rfl (hb hby at_159) k) ?_
                          show own_G _ _ _ (T28.setTop (mkF m 160 #[.val (.int p0), .val (.int p1), .val (.long p2), .second, .val (.int s6), .val (.int l6), .val (.int m6), .val (.ref b1), .val (.int s3), .val (.int l3), .val (.int m3), .val (.long ((p2.toUInt64 >>> ((24 : Int32) &&& 0x3f).toInt64.toUInt64).toInt64)), .second, .val (.ref b28), .unset, .unset] [(.int (0 : Int32)), (.ref b28)])) _ _ _ _
                          refine own_go (fun _ k => XS.iconst X28.here hx rfl (hb hby at_160) k) ?_
                          show own_G _ _ _ (T28.setTop (mkF m 161 #[.val (.int p0), .val (.int p1), .val (.long p2), .second, .val (.int s6), .val (.int l6), .val (.int m6), .val (.ref b1), .val (.int s3), .val (.int l3), .val (.int m3), .val (.long ((p2.toUInt64 >>> ((24 : Int32) &&& 0x3f).toInt64.toUInt64).toInt64)), .second, .val (.ref b28), .unset, .unset] [(.int (0 : Int32)), (.int (0 : Int32)), (.ref b28)])) _ _ _ _
                          refine own_go (fun _ k => XS.iload X28.here hx rfl (hb hby at_161) rfl k) ?_
                          show own_G _ _ _ (T28.setTop (mkF m 163 #[.val (.int p0), .val (.int p1), .val (.long p2), .second, .val (.int s6), .val (.int l6), .val (.int m6), .val (.ref b1), .val (.int s3), .val (.int l3), .val (.int m3), .val (.long ((p2.toUInt64 >>> ((24 : Int32) &&& 0x3f).toInt64.toUInt64).toInt64)), .second, .val (.ref b28), .unset, .unset] [(.int s3), (.int (0 : Int32)), (.int (0 : Int32)), (.ref b28)])) _ _ _ _
                          refine own_go (fun _ k => XS.iload X28.here hx rfl (hb hby at_163) rfl k) ?_
                          show own_G _ _ _ (T28.setTop (mkF m 165 #[.val (.int p0), .val (.int p1), .val (.long p2), .second, .val (.int s6), .val (.int l6), .val (.int m6), .val (.ref b1), .val (.int s3), .val (.int l3), .val (.int m3), .val (.long ((p2.toUInt64 >>> ((24 : Int32) &&& 0x3f).toInt64.toUInt64).toInt64)), .second, .val (.ref b28), .unset, .unset] [(.int m3), (.int s3), (.int (0 : Int32)), (.int (0 : Int32)), (.ref b28)])) _ _ _ _
                          refine own_go (fun _ k => XS.iload X28.here hx rfl (hb hby at_165) rfl k) ?_
                          show own_G _ _ _ (T28.setTop (mkF m 167 #[.val (.int p0), .val (.int p1), .val (.long p2), .second, .val (.int s6), .val (.int l6), .val (.int m6), .val (.ref b1), .val (.int s3), .val (.int l3), .val (.int m3), .val (.long ((p2.toUInt64 >>> ((24 : Int32) &&& 0x3f).toInt64.toUInt64).toInt64)), .second, .val (.ref b28), .unset, .unset] [(.int l3), (.int m3), (.int s3), (.int (0 : Int32)), (.int (0 : Int32)), (.ref b28)])) _ _ _ _
                          refine own_go (fun _ k => XS.lload X28.here hx rfl (hb hby at_167) rfl k) ?_
                          show own_G _ _ _ (T28.setTop (mkF m 169 #[.val (.int p0), .val (.int p1), .val (.long p2), .second, .val (.int s6), .val (.int l6), .val (.int m6), .val (.ref b1), .val (.int s3), .val (.int l3), .val (.int m3), .val (.long ((p2.toUInt64 >>> ((24 : Int32) &&& 0x3f).toInt64.toUInt64).toInt64)), .second, .val (.ref b28), .unset, .unset] [(.long ((p2.toUInt64 >>> ((24 : Int32) &&& 0x3f).toInt64.toUInt64).toInt64)), (.int l3), (.int m3), (.int s3), (.int (0 : Int32)), (.int (0 : Int32)), (.ref b28)])) _ _ _ _
                          obtain ⟨_, _, ⟨T33, L33, k33, n33⟩, -, X33, ⟨Lc33, hQ33, l33, y33, z33⟩, st33⟩ := Jvm.LawKit.callS X28 hx (y := (⟨"com/example/hence/hence/reasoning/DecimalIsIntegerPinLaw", "ch", "(IIIIJ)C"⟩ : MethodName)) hown (mvT hZ (hw _ (List.mem_of_getElem? (i := 2) rfl))) (mvT hZ (hw _ (List.mem_of_getElem? (i := 3) rfl))) (mvT hZ (hw _ (List.mem_of_getElem? (i := 4) rfl))) (mvT hZ (hw _ (List.mem_of_getElem? (i := 5) rfl))) (by decide) (backOf (W := 2) (rm1 l Z a0 hw [] (0 : Int32) s3 m3 l3 ((p2.toUInt64 >>> ((24 : Int32) &&& 0x3f).toInt64.toUInt64).toInt64) h28 n0) hZ (hw _ (List.mem_of_getElem? (i := 5) rfl)) (hw _ (List.mem_of_getElem? (i := 4) rfl)) (by decide) (by decide)) (g := (mkF m 169 #[.val (.int p0), .val (.int p1), .val (.long p2), .second, .val (.int s6), .val (.int l6), .val (.int m6), .val (.ref b1), .val (.int s3), .val (.int l3), .val (.int m3), .val (.long ((p2.toUInt64 >>> ((24 : Int32) &&& 0x3f).toInt64.toUInt64).toInt64)), .second, .val (.ref b28), .unset, .unset] [(.long ((p2.toUInt64 >>> ((24 : Int32) &&& 0x3f).toInt64.toUInt64).toInt64)), (.int l3), (.int m3), (.int s3), (.int (0 : Int32)), (.int (0 : Int32)), (.ref b28)])) rfl (by rw [hml]; rfl) (argsL := [(.int (0 : Int32)), (.int s3), (.int m3), (.int l3), (.long ((p2.toUInt64 >>> ((24 : Int32) &&& 0x3f).toInt64.toUInt64).toInt64))]) (rest := [(.int (0 : Int32)), (.ref b28)]) (lenOf pd_8 rfl) rfl (by show 2 * 0 + _ ≤ _; exact Nat.le_of_eq rfl) (hb hby at_169) (fun _ _ => ⟨rfl, e28, (by decide : 2 + 0 ≤ _), (by decide : 9 + 0 ≤ _)⟩)
                          dsimp only [Pt.U, Pt.locs, Pt.cells, Pt.slots] at X33 l33 y33 z33 st33 hQ33
                          rw [l33] at X33
                          subst y33 z33
                          obtain ⟨rfl, Nq33, eh33⟩ := hQ33
                          have N33 := Fr.app N25 Nq33
                          refine own_go (fun _ k => st33 _ k) ?_
                          show own_G _ _ _ (T33.setTop (mkF m 172 #[.val (.int p0), .val (.int p1), .val (.long p2), .second, .val (.int s6), .val (.int l6), .val (.int m6), .val (.ref b1), .val (.int s3), .val (.int l3), .val (.int m3), .val (.long ((p2.toUInt64 >>> ((24 : Int32) &&& 0x3f).toInt64.toUInt64).toInt64)), .second, .val (.ref b28), .unset, .unset] [(.int (own_ch (0 : Int32) s3 m3 l3 ((p2.toUInt64 >>> ((24 : Int32) &&& 0x3f).toInt64.toUInt64).toInt64))), (.int (0 : Int32)), (.ref b28)])) _ _ _ _
                          obtain ⟨u6, h_u6⟩ : ∃ z : Int32, z = (own_ch (0 : Int32) s3 m3 l3 ((p2.toUInt64 >>> ((24 : Int32) &&& 0x3f).toInt64.toUInt64).toInt64)) := ⟨_, rfl⟩
                          · rw [← h_u6]
                            show own_G _ _ _ (T33.setTop (mkF m 172 #[.val (.int p0), .val (.int p1), .val (.long p2), .second, .val (.int s6), .val (.int l6), .val (.int m6), .val (.ref b1), .val (.int s3), .val (.int l3), .val (.int m3), .val (.long ((p2.toUInt64 >>> ((24 : Int32) &&& 0x3f).toInt64.toUInt64).toInt64)), .second, .val (.ref b28), .unset, .unset] [(.int u6), (.int (0 : Int32)), (.ref b28)])) _ _ _ _
                            obtain ⟨cl34, Ar34, q34, S34, Ng34, H34, G34⟩ := id f32
                            have in34 : ¬ ((0 : Int32) < 0 ∨ cl34.slots.size ≤ ((0 : Int32)).toNatClampNeg) := inb_of S34 ⟨by decide, by decide⟩
                            obtain ⟨T34, h34, X34, e34, W34, st34⟩ := stC X33 hx hZ eh33 Ar34 (j := (0 : Int32)) in34 (g := (mkF m 172 #[.val (.int p0), .val (.int p1), .val (.long p2), .second, .val (.int s6), .val (.int l6), .val (.int m6), .val (.ref b1), .val (.int s3), .val (.int l3), .val (.int m3), .val (.long ((p2.toUInt64 >>> ((24 : Int32) &&& 0x3f).toInt64.toUInt64).toInt64)), .second, .val (.ref b28), .unset, .unset] [(.int u6), (.int (0 : Int32)), (.ref b28)])) rfl rfl (hb hby at_172)
                            have N34 := Fr.snoc X34 N33 gg28
                            have Zs34 : n0 ≤ h34.size := Nat.le_trans Zs28 (Keep.of_wr W34).1
                            have K34_0 : Keep h0 h34 [] := K28_0.wr W34 (Or.inr sz28_0)
                            have f35 : Old Z n0 h34 := f30.wr W34 gg28
                            have f36 : Arv Z h34 b1 k1 .char (6 : Int32) [(.int (nar .char u0)), (.int (nar .char u1)), (.int (nar .char u2)), (.int (nar .char u3)), (.int (nar .char u4)), (.int (nar .char u5))] (.int (0 : Int32)) := f31.other W34 ne29
                            have f37 : Arv Z h34 b28 k28 .char (3 : Int32) [(.int (nar .char u6)), (.int (0 : Int32)), (.int (0 : Int32))] (.int (0 : Int32)) := Arv.set Ar34 q34 S34 Ng34 H34 G34 (fits_nar_char _) W34 0 rfl (Nat.le_of_ble_eq_true rfl)
                            refine own_go (fun _ k => st34 _ k) ?_
                            show own_G _ _ _ (T34.setTop (mkF m 173 #[.val (.int p0), .val (.int p1), .val (.long p2), .second, .val (.int s6), .val (.int l6), .val (.int m6), .val (.ref b1), .val (.int s3), .val (.int l3), .val (.int m3), .val (.long ((p2.toUInt64 >>> ((24 : Int32) &&& 0x3f).toInt64.toUInt64).toInt64)), .second, .val (.ref b28), .unset, .unset] [])) _ _ _ _
                            refine own_go (fun _ k => XS.aload X34.here hx rfl (hb hby at_173) rfl rfl k) ?_
                            show own_G _ _ _ (T34.setTop (mkF m 175 #[.val (.int p0), .val (.int p1), .val (.long p2), .second, .val (.int s6), .val (.int l6), .val (.int m6), .val (.ref b1), .val (.int s3), .val (.int l3), .val (.int m3), .val (.long ((p2.toUInt64 >>> ((24 : Int32) &&& 0x3f).toInt64.toUInt64).toInt64)), .second, .val (.ref b28), .unset, .unset] [(.ref b28)])) _ _ _ _
                            refine own_go (fun _ k => XS.iconst X34.here hx rfl (hb hby at_175) k) ?_
                            show own_G _ _ _ (T34.setTop (mkF m 176 #[.val (.int p0), .val (.int p1), .val (.long p2), .second, .val (.int s6), .val (.int l6), .val (.int m6), .val (.ref b1), .val (.int s3), .val (.int l3), .val (.int m3), .val (.long ((p2.toUInt64 >>> ((24 : Int32) &&& 0x3f).toInt64.toUInt64).toInt64)), .second, .val (.ref b28), .unset, .unset] [(.int (1 : Int32)), (.ref b28)])) _ _ _ _
                            refine own_go (fun _ k => XS.iconst X34.here hx rfl (hb hby at_176) k) ?_
                            show own_G _ _ _ (T34.setTop (mkF m 177 #[.val (.int p0), .val (.int p1), .val (.long p2), .second, .val (.int s6), .val (.int l6), .val (.int m6), .val (.ref b1), .val (.int s3), .val (.int l3), .val (.int m3), .val (.long ((p2.toUInt64 >>> ((24 : Int32) &&& 0x3f).toInt64.toUInt64).toInt64)), .second, .val (.ref b28), .unset, .unset] [(.int (1 : Int32)), (.int (1 : Int32)), (.ref b28)])) _ _ _ _
                            refine own_go (fun _ k => XS.iload X34.here hx rfl (hb hby at_177) rfl k) ?_
                            show own_G _ _ _ (T34.setTop (mkF m 179 #[.val (.int p0), .val (.int p1), .val (.long p2), .second, .val (.int s6), .val (.int l6), .val (.int m6), .val (.ref b1), .val (.int s3), .val (.int l3), .val (.int m3), .val (.long ((p2.toUInt64 >>> ((24 : Int32) &&& 0x3f).toInt64.toUInt64).toInt64)), .second, .val (.ref b28), .unset, .unset] [(.int s3), (.int (1 : Int32)), (.int (1 : Int32)), (.ref b28)])) _ _ _ _
                            refine own_go (fun _ k => XS.iload X34.here hx rfl (hb hby at_179) rfl k) ?_
                            show own_G _ _ _ (T34.setTop (mkF m 181 #[.val (.int p0), .val (.int p1), .val (.long p2), .second, .val (.int s6), .val (.int l6), .val (.int m6), .val (.ref b1), .val (.int s3), .val (.int l3), .val (.int m3), .val (.long ((p2.toUInt64 >>> ((24 : Int32) &&& 0x3f).toInt64.toUInt64).toInt64)), .second, .val (.ref b28), .unset, .unset] [(.int m3), (.int s3), (.int (1 : Int32)), (.int (1 : Int32)), (.ref b28)])) _ _ _ _
                            refine own_go (fun _ k => XS.iload X34.here hx rfl (hb hby at_181) rfl k) ?_
                            show own_G _ _ _ (T34.setTop (mkF m 183 #[.val (.int p0), .val (.int p1), .val (.long p2), .second, .val (.int s6), .val (.int l6), .val (.int m6), .val (.ref b1), .val (.int s3), .val (.int l3), .val (.int m3), .val (.long ((p2.toUInt64 >>> ((24 : Int32) &&& 0x3f).toInt64.toUInt64).toInt64)), .second, .val (.ref b28), .unset, .unset] [(.int l3), (.int m3), (.int s3), (.int (1 : Int32)), (.int (1 : Int32)), (.ref b28)])) _ _ _ _
                            refine own_go (fun _ k => XS.lload X34.here hx rfl (hb hby at_183) rfl k) ?_
                            show own_G _ _ _ (T34.setTop (mkF m 185 #[.val (.int p0), .val (.int p1), .val (.long p2), .second, .val (.int s6), .val (.int l6), .val (.int m6), .val (.ref b1), .val (.int s3), .val (.int l3), .val (.int m3), .val (.long ((p2.toUInt64 >>> ((24 : Int32) &&& 0x3f).toInt64.toUInt64).toInt64)), .second, .val (.ref b28), .unset, .unset] [(.long ((p2.toUInt64 >>> ((24 : Int32) &&& 0x3f).toInt64.toUInt64).toInt64)), (.int l3), (.int m3), (.int s3), (.int (1 : Int32)), (.int (1 : Int32)), (.ref b28)])) _ _ _ _
                            obtain ⟨_, _, ⟨T38, L38, k38, n38⟩, -, X38, ⟨Lc38, hQ38, l38, y38, z38⟩, st38⟩ := Jvm.LawKit.callS X34 hx (y := (⟨"com/example/hence/hence/reasoning/DecimalIsIntegerPinLaw", "ch", "(IIIIJ)C"⟩ : MethodName)) hown (mvT hZ (hw _ (List.mem_of_getElem? (i := 2) rfl))) (mvT hZ (hw _ (List.mem_of_getElem? (i := 3) rfl))) (mvT hZ (hw _ (List.mem_of_getElem? (i := 4) rfl))) (mvT hZ (hw _ (List.mem_of_getElem? (i := 5) rfl))) (by decide) (backOf (W := 2) (rm1 l Z a0 hw [] (1 : Int32) s3 m3 l3 ((p2.toUInt64 >>> ((24 : Int32) &&& 0x3f).toInt64.toUInt64).toInt64) h34 n0) hZ (hw _ (List.mem_of_getElem? (i := 5) rfl)) (hw _ (List.mem_of_getElem? (i := 4) rfl)) (by decide) (by decide)) (g := (mkF m 185 #[.val (.int p0), .val (.int p1), .val (.long p2), .second, .val (.int s6), .val (.int l6), .val (.int m6), .val (.ref b1), .val (.int s3), .val (.int l3), .val (.int m3), .val (.long ((p2.toUInt64 >>> ((24 : Int32) &&& 0x3f).toInt64.toUInt64).toInt64)), .second, .val (.ref b28), .unset, .unset] [(.long ((p2.toUInt64 >>> ((24 : Int32) &&& 0x3f).toInt64.toUInt64).toInt64)), (.int l3), (.int m3), (.int s3), (.int (1 : Int32)), (.int (1 : Int32)), (.ref b28)])) rfl (by rw [hml]; rfl) (argsL := [(.int (1 : Int32)), (.int s3), (.int m3), (.int l3), (.long ((p2.toUInt64 >>> ((24 : Int32) &&& 0x3f).toInt64.toUInt64).toInt64))]) (rest := [(.int (1 : Int32)), (.ref b28)]) (lenOf pd_8 rfl) rfl (by show 2 * 0 + _ ≤ _; exact Nat.le_of_eq rfl) (hb hby at_185) (fun _ _ => ⟨rfl, e34, (by decide : 2 + 0 ≤ _), (by decide : 9 + 0 ≤ _)⟩)
                            dsimp only [Pt.U, Pt.locs, Pt.cells, Pt.slots] at X38 l38 y38 z38 st38 hQ38
                            rw [l38] at X38
                            subst y38 z38
                            obtain ⟨rfl, Nq38, eh38⟩ := hQ38
                            have N38 := Fr.app N34 Nq38
                            refine own_go (fun _ k => st38 _ k) ?_
                            show own_G _ _ _ (T38.setTop (mkF m 188 #[.val (.int p0), .val (.int p1), .val (.long p2), .second, .val (.int s6), .val (.int l6), .val (.int m6), .val (.ref b1), .val (.int s3), .val (.int l3), .val (.int m3), .val (.long ((p2.toUInt64 >>> ((24 : Int32) &&& 0x3f).toInt64.toUInt64).toInt64)), .second, .val (.ref b28), .unset, .unset] [(.int (own_ch (1 : Int32) s3 m3 l3 ((p2.toUInt64 >>> ((24 : Int32) &&& 0x3f).toInt64.toUInt64).toInt64))), (.int (1 : Int32)), (.ref b28)])) _ _ _ _
                            obtain ⟨u7, h_u7⟩ : ∃ z : Int32, z = (own_ch (1 : Int32) s3 m3 l3 ((p2.toUInt64 >>> ((24 : Int32) &&& 0x3f).toInt64.toUInt64).toInt64)) := ⟨_, rfl⟩
                            · rw [← h_u7]
                              show own_G _ _ _ (T38.setTop (mkF m 188 #[.val (.int p0), .val (.int p1), .val (.long p2), .second, .val (.int s6), .val (.int l6), .val (.int m6), .val (.ref b1), .val (.int s3), .val (.int l3), .val (.int m3), .val (.long ((p2.toUInt64 >>> ((24 : Int32) &&& 0x3f).toInt64.toUInt64).toInt64)), .second, .val (.ref b28), .unset, .unset] [(.int u7), (.int (1 : Int32)), (.ref b28)])) _ _ _ _
                              obtain ⟨cl39, Ar39, q39, S39, Ng39, H39, G39⟩ := id f37
                              have in39 : ¬ ((1 : Int32) < 0 ∨ cl39.slots.size ≤ ((1 : Int32)).toNatClampNeg) := inb_of S39 ⟨by decide, by decide⟩
                              obtain ⟨T39, h39, X39, e39, W39, st39⟩ := stC X38 hx hZ eh38 Ar39 (j := (1 : Int32)) in39 (g := (mkF m 188 #[.val (.int p0), .val (.int p1), .val (.long p2), .second, .val (.int s6), .val (.int l6), .val (.int m6), .val (.ref b1), .val (.int s3), .val (.int l3), .val (.int m3), .val (.long ((p2.toUInt64 >>> ((24 : Int32) &&& 0x3f).toInt64.toUInt64).toInt64)), .second, .val (.ref b28), .unset, .unset] [(.int u7), (.int (1 : Int32)), (.ref b28)])) rfl rfl (hb hby at_188)
                              have N39 := Fr.snoc X39 N38 gg28
                              have Zs39 : n0 ≤ h39.size := Nat.le_trans Zs34 (Keep.of_wr W39).1
                              have K39_0 : Keep h0 h39 [] := K34_0.wr W39 (Or.inr sz28_0)
                              have f40 : Old Z n0 h39 := f35.wr W39 gg28
                              have f41 : Arv Z h39 b1 k1 .char (6 : Int32) [(.int (nar .char u0)), (.int (nar .char u1)), (.int (nar .char u2)), (.int (nar .char u3)), (.int (nar .char u4)), (.int (nar .char u5))] (.int (0 : Int32)) := f36.other W39 ne29
                              have f42 : Arv Z h39 b28 k28 .char (3 : Int32) [(.int (nar .char u6)), (.int (nar .char u7)), (.int (0 : Int32))] (.int (0 : Int32)) := Arv.set Ar39 q39 S39 Ng39 H39 G39 (fits_nar_char _) W39 1 rfl (Nat.le_of_ble_eq_true rfl)
                              refine own_go (fun _ k => st39 _ k) ?_
                              show own_G _ _ _ (T39.setTop (mkF m 189 #[.val (.int p0), .val (.int p1), .val (.long p2), .second, .val (.int s6), .val (.int l6), .val (.int m6), .val (.ref b1), .val (.int s3), .val (.int l3), .val (.int m3), .val (.long ((p2.toUInt64 >>> ((24 : Int32) &&& 0x3f).toInt64.toUInt64).toInt64)), .second, .val (.ref b28), .unset, .unset] [])) _ _ _ _
                              refine own_go (fun _ k => XS.aload X39.here hx rfl (hb hby at_189) rfl rfl k) ?_
                              show own_G _ _ _ (T39.setTop (mkF m 191 #[.val (.int p0), .val (.int p1), .val (.long p2), .second, .val (.int s6), .val (.int l6), .val (.int m6), .val (.ref b1), .val (.int s3), .val (.int l3), .val (.int m3), .val (.long ((p2.toUInt64 >>> ((24 : Int32) &&& 0x3f).toInt64.toUInt64).toInt64)), .second, .val (.ref b28), .unset, .unset] [(.ref b28)])) _ _ _ _
                              refine own_go (fun _ k => XS.iconst X39.here hx rfl (hb hby at_191) k) ?_
                              show own_G _ _ _ (T39.setTop (mkF m 192 #[.val (.int p0), .val (.int p1), .val (.long p2), .second, .val (.int s6), .val (.int l6), .val (.int m6), .val (.ref b1), .val (.int s3), .val (.int l3), .val (.int m3), .val (.long ((p2.toUInt64 >>> ((24 : Int32) &&& 0x3f).toInt64.toUInt64).toInt64)), .second, .val (.ref b28), .unset, .unset] [(.int (2 : Int32)), (.ref b28)])) _ _ _ _
                              refine own_go (fun _ k => XS.iconst X39.here hx rfl (hb hby at_192) k) ?_
                              show own_G _ _ _ (T39.setTop (mkF m 193 #[.val (.int p0), .val (.int p1), .val (.long p2), .second, .val (.int s6), .val (.int l6), .val (.int m6), .val (.ref b1), .val (.int s3), .val (.int l3), .val (.int m3), .val (.long ((p2.toUInt64 >>> ((24 : Int32) &&& 0x3f).toInt64.toUInt64).toInt64)), .second, .val (.ref b28), .unset, .unset] [(.int (2 : Int32)), (.int (2 : Int32)), (.ref b28)])) _ _ _ _
                              refine own_go (fun _ k => XS.iload X39.here hx rfl (hb hby at_193) rfl k) ?_
                              show own_G _ _ _ (T39.setTop (mkF m 195 #[.val (.int p0), .val (.int p1), .val (.long p2), .second, .val (.int s6), .val (.int l6), .val (.int m6), .val (.ref b1), .val (.int s3), .val (.int l3), .val (.int m3), .val (.long ((p2.toUInt64 >>> ((24 : Int32) &&& 0x3f).toInt64.toUInt64).toInt64)), .second, .val (.ref b28), .unset, .unset] [(.int s3), (.int (2 : Int32)), (.int (2 : Int32)), (.ref b28)])) _ _ _ _
                              refine own_go (fun _ k => XS.iload X39.here hx rfl (hb hby at_195) rfl k) ?_
                              show own_G _ _ _ (T39.setTop (mkF m 197 #[.val (.int p0), .val (.int p1), .val (.long p2), .second, .val (.int s6), .val (.int l6), .val (.int m6), .val (.ref b1), .val (.int s3), .val (.int l3), .val (.int m3), .val (.long ((p2.toUInt64 >>> ((24 : Int32) &&& 0x3f).toInt64.toUInt64).toInt64)), .second, .val (.ref b28), .unset, .unset] [(.int m3), (.int s3), (.int (2 : Int32)), (.int (2 : Int32)), (.ref b28)])) _ _ _ _
                              refine own_go (fun _ k => XS.iload X39.here hx rfl (hb hby at_197) rfl k) ?_
                              show own_G _ _ _ (T39.setTop (mkF m 199 #[.val (.int p0), .val (.int p1), .val (.long p2), .second, .val (.int s6), .val (.int l6), .val (.int m6), .val (.ref b1), .val (.int s3), .val (.int l3), .val (.int m3), .val (.long ((p2.toUInt64 >>> ((24 : Int32) &&& 0x3f).toInt64.toUInt64).toInt64)), .second, .val (.ref b28), .unset, .unset] [(.int l3), (.int m3), (.int s3), (.int (2 : Int32)), (.int (2 : Int32)), (.ref b28)])) _ _ _ _
                              refine own_go (fun _ k => XS.lload X39.here hx rfl (hb hby at_199) rfl k) ?_
                              show own_G _ _ _ (T39.setTop (mkF m 201 #[.val (.int p0), .val (.int p1), .val (.long p2), .second, .val (.int s6), .val (.int l6), .val (.int m6), .val (.ref b1), .val (.int s3), .val (.int l3), .val (.int m3), .val (.long ((p2.toUInt64 >>> ((24 : Int32) &&& 0x3f).toInt64.toUInt64).toInt64)), .second, .val (.ref b28), .unset, .unset] [(.long ((p2.toUInt64 >>> ((24 : Int32) &&& 0x3f).toInt64.toUInt64).toInt64)), (.int l3), (.int m3), (.int s3), (.int (2 : Int32)), (.int (2 : Int32)), (.ref b28)])) _ _ _ _
                              obtain ⟨_, _, ⟨T43, L43, k43, n43⟩, -, X43, ⟨Lc43, hQ43, l43, y43, z43⟩, st43⟩ := Jvm.LawKit.callS X39 hx (y := (⟨"com/example/hence/hence/reasoning/DecimalIsIntegerPinLaw", "ch", "(IIIIJ)C"⟩ : MethodName)) hown (mvT hZ (hw _ (List.mem_of_getElem? (i := 2) rfl))) (mvT hZ (hw _ (List.mem_of_getElem? (i := 3) rfl))) (mvT hZ (hw _ (List.mem_of_getElem? (i := 4) rfl))) (mvT hZ (hw _ (List.mem_of_getElem? (i := 5) rfl))) (by decide) (backOf (W := 2) (rm1 l Z a0 hw [] (2 : Int32) s3 m3 l3 ((p2.toUInt64 >>> ((24 : Int32) &&& 0x3f).toInt64.toUInt64).toInt64) h39 n0) hZ (hw _ (List.mem_of_getElem? (i := 5) rfl)) (hw _ (List.mem_of_getElem? (i := 4) rfl)) (by decide) (by decide)) (g := (mkF m 201 #[.val (.int p0), .val (.int p1), .val (.long p2), .second, .val (.int s6), .val (.int l6), .val (.int m6), .val (.ref b1), .val (.int s3), .val (.int l3), .val (.int m3), .val (.long ((p2.toUInt64 >>> ((24 : Int32) &&& 0x3f).toInt64.toUInt64).toInt64)), .second, .val (.ref b28), .unset, .unset] [(.long ((p2.toUInt64 >>> ((24 : Int32) &&& 0x3f).toInt64.toUInt64).toInt64)), (.int l3), (.int m3), (.int s3), (.int (2 : Int32)), (.int (2 : Int32)), (.ref b28)])) rfl (by rw [hml]; rfl) (argsL := [(.int (2 : Int32)), (.int s3), (.int m3), (.int l3), (.long ((p2.toUInt64 >>> ((24 : Int32) &&& 0x3f).toInt64.toUInt64).toInt64))]) (rest := [(.int (2 : Int32)), (.ref b28)]) (lenOf pd_8 rfl) rfl (by show 2 * 0 + _ ≤ _; exact Nat.le_of_eq rfl) (hb hby at_201) (fun _ _ => ⟨rfl, e39, (by decide : 2 + 0 ≤ _), (by decide : 9 + 0 ≤ _)⟩)
                              dsimp only [Pt.U, Pt.locs, Pt.cells, Pt.slots] at X43 l43 y43 z43 st43 hQ43
                              rw [l43] at X43
                              subst y43 z43
                              obtain ⟨rfl, Nq43, eh43⟩ := hQ43
                              have N43 := Fr.app N39 Nq43
                              refine own_go (fun _ k => st43 _ k) ?_
                              show own_G _ _ _ (T43.setTop (mkF m 204 #[.val (.int p0), .val (.int p1), .val (.long p2), .second, .val (.int s6), .val (.int l6), .val (.int m6), .val (.ref b1), .val (.int s3), .val (.int l3), .val (.int m3), .val (.long ((p2.toUInt64 >>> ((24 : Int32) &&& 0x3f).toInt64.toUInt64).toInt64)), .second, .val (.ref b28), .unset, .unset] [(.int (own_ch (2 : Int32) s3 m3 l3 ((p2.toUInt64 >>> ((24 : Int32) &&& 0x3f).toInt64.toUInt64).toInt64))), (.int (2 : Int32)), (.ref b28)])) _ _ _ _
                              obtain ⟨u8, h_u8⟩ : ∃ z : Int32, z = (own_ch (2 : Int32) s3 m3 l3 ((p2.toUInt64 >>> ((24 : Int32) &&& 0x3f).toInt64.toUInt64).toInt64)) := ⟨_, rfl⟩
                              · rw [← h_u8]
                                show own_G _ _ _ (T43.setTop (mkF m 204 #[.val (.int p0), .val (.int p1), .val (.long p2), .second, .val (.int s6), .val (.int l6), .val (.int m6), .val (.ref b1), .val (.int s3), .val (.int l3), .val (.int m3), .val (.long ((p2.toUInt64 >>> ((24 : Int32) &&& 0x3f).toInt64.toUInt64).toInt64)), .second, .val (.ref b28), .unset, .unset] [(.int u8), (.int (2 : Int32)), (.ref b28)])) _ _ _ _
                                obtain ⟨cl44, Ar44, q44, S44, Ng44, H44, G44⟩ := id f42
                                have in44 : ¬ ((2 : Int32) < 0 ∨ cl44.slots.size ≤ ((2 : Int32)).toNatClampNeg) := inb_of S44 ⟨by decide, by decide⟩
                                obtain ⟨T44, h44, X44, e44, W44, st44⟩ := stC X43 hx hZ eh43 Ar44 (j := (2 : Int32)) in44 (g := (mkF m 204 #[.val (.int p0), .val (.int p1), .val (.long p2), .second, .val (.int s6), .val (.int l6), .val (.int m6), .val (.ref b1), .val (.int s3), .val (.int l3), .val (.int m3), .val (.long ((p2.toUInt64 >>> ((24 : Int32) &&& 0x3f).toInt64.toUInt64).toInt64)), .second, .val (.ref b28), .unset, .unset] [(.int u8), (.int (2 : Int32)), (.ref b28)])) rfl rfl (hb hby at_204)
                                have N44 := Fr.snoc X44 N43 gg28
                                have Zs44 : n0 ≤ h44.size := Nat.le_trans Zs39 (Keep.of_wr W44).1
                                have K44_0 : Keep h0 h44 [] := K39_0.wr W44 (Or.inr sz28_0)
                                have f45 : Old Z n0 h44 := f40.wr W44 gg28
                                have f46 : Arv Z h44 b1 k1 .char (6 : Int32) [(.int (nar .char u0)), (.int (nar .char u1)), (.int (nar .char u2)), (.int (nar .char u3)), (.int (nar .char u4)), (.int (nar .char u5))] (.int (0 : Int32)) := f41.other W44 ne29
                                have f47 : Arv Z h44 b28 k28 .char (3 : Int32) [(.int (nar .char u6)), (.int (nar .char u7)), (.int (nar .char u8))] (.int (0 : Int32)) := Arv.set Ar44 q44 S44 Ng44 H44 G44 (fits_nar_char _) W44 2 rfl (Nat.le_of_ble_eq_true rfl)
                                refine own_go (fun _ k => st44 _ k) ?_
                                show own_G _ _ _ (T44.setTop (mkF m 205 #[.val (.int p0), .val (.int p1), .val (.long p2), .second, .val (.int s6), .val (.int l6), .val (.int m6), .val (.ref b1), .val (.int s3), .val (.int l3), .val (.int m3), .val (.long ((p2.toUInt64 >>> ((24 : Int32) &&& 0x3f).toInt64.toUInt64).toInt64)), .second, .val (.ref b28), .unset, .unset] [])) _ _ _ _
                                obtain ⟨T48, h48, X48, e48, E48, A48, D48, -, st48⟩ := newO X44 hx hZ hown (hw _ (List.mem_of_getElem? (i := 8) rfl)) (hw _ (List.mem_of_getElem? (i := 9) rfl)) (hw _ (List.mem_of_getElem? (i := 10) rfl)) e44 (g := (mkF m 205 #[.val (.int p0), .val (.int p1), .val (.long p2), .second, .val (.int s6), .val (.int l6), .val (.int m6), .val (.ref b1), .val (.int s3), .val (.int l3), .val (.int m3), .val (.long ((p2.toUInt64 >>> ((24 : Int32) &&& 0x3f).toInt64.toUInt64).toInt64)), .second, .val (.ref b28), .unset, .unset] [])) rfl (hb hby at_205) (by decide) (by decide)
                                obtain ⟨b48, g48⟩ : ∃ z, z = h44.size := ⟨_, rfl⟩
                                rw [← g48] at A48 D48 st48
                                have ne49 : b1 ≠ b48 := Nat.ne_of_lt (Nat.lt_of_lt_of_le f46.lt (Nat.le_of_eq g48.symm))
                                have ne50 : b28 ≠ b48 := Nat.ne_of_lt (Nat.lt_of_lt_of_le f47.lt (Nat.le_of_eq g48.symm))
                                have gg48 : n0 ≤ b48 := Nat.le_trans Zs44 (Nat.le_of_eq g48.symm)
                                have sz48_0 : h0.size ≤ b48 := Nat.le_trans K44_0.1 (Nat.le_of_eq g48.symm)
                                have Zs48 : n0 ≤ h48.size := Nat.le_trans Zs44 E48.1
                                have K48_0 : Keep h0 h48 [] := K44_0.ext E48
                                have f51 : Old Z n0 h48 := f45.ext E48
                                have f52 : Arv Z h48 b1 k1 .char (6 : Int32) [(.int (nar .char u0)), (.int (nar .char u1)), (.int (nar .char u2)), (.int (nar .char u3)), (.int (nar .char u4)), (.int (nar .char u5))] (.int (0 : Int32)) := f46.ext E48
                                have f53 : Arv Z h48 b28 k28 .char (3 : Int32) [(.int (nar .char u6)), (.int (nar .char u7)), (.int (nar .char u8))] (.int (0 : Int32)) := f47.ext E48
                                have f54 : Exa Z h48 b48 "com/example/hence/hence/reasoning/Decimal" := A48
                                have f55 : Fld Z h48 b48 "com/example/hence/hence/reasoning/Decimal" "canonical" "Ljava/lang/String;" .null := D48 (Or.inr (hw _ (List.mem_of_getElem? (i := 50) rfl))) (ty := (.object "java/lang/String")) (by decide)
                                refine own_go (fun _ k => st48 _ k) ?_
                                show own_G _ _ _ (T48.setTop (mkF m 208 #[.val (.int p0), .val (.int p1), .val (.long p2), .second, .val (.int s6), .val (.int l6), .val (.int m6), .val (.ref b1), .val (.int s3), .val (.int l3), .val (.int m3), .val (.long ((p2.toUInt64 >>> ((24 : Int32) &&& 0x3f).toInt64.toUInt64).toInt64)), .second, .val (.ref b28), .unset, .unset] [(.ref b48)])) _ _ _ _
                                refine own_go (fun _ k => XS.dup X48.here hx rfl (hb hby at_208) rfl rfl k) ?_
                                show own_G _ _ _ (T48.setTop (mkF m 209 #[.val (.int p0), .val (.int p1), .val (.long p2), .second, .val (.int s6), .val (.int l6), .val (.int m6), .val (.ref b1), .val (.int s3), .val (.int l3), .val (.int m3), .val (.long ((p2.toUInt64 >>> ((24 : Int32) &&& 0x3f).toInt64.toUInt64).toInt64)), .second, .val (.ref b28), .unset, .unset] [(.ref b48), (.ref b48)])) _ _ _ _
                                obtain ⟨T56, h56, X56, e56, E56, A56, D56, -, st56⟩ := newO X48 hx hZ hown (hw _ (List.mem_of_getElem? (i := 11) rfl)) (hw _ (List.mem_of_getElem? (i := 12) rfl)) (hw _ (List.mem_of_getElem? (i := 13) rfl)) e48 (g := (mkF m 209 #[.val (.int p0), .val (.int p1), .val (.long p2), .second, .val (.int s6), .val (.int l6), .val (.int m6), .val (.ref b1), .val (.int s3), .val (.int l3), .val (.int m3), .val (.long ((p2.toUInt64 >>> ((24 : Int32) &&& 0x3f).toInt64.toUInt64).toInt64)), .second, .val (.ref b28), .unset, .unset] [(.ref b48), (.ref b48)])) rfl (hb hby at_209) (by decide) (by decide)
                                obtain ⟨b56, g56⟩ : ∃ z, z = h48.size := ⟨_, rfl⟩
                                rw [← g56] at A56 D56 st56
                                have ne57 : b1 ≠ b56 := Nat.ne_of_lt (Nat.lt_of_lt_of_le f52.lt (Nat.le_of_eq g56.symm))
                                have ne58 : b28 ≠ b56 := Nat.ne_of_lt (Nat.lt_of_lt_of_le f53.lt (Nat.le_of_eq g56.symm))
                                have ne59 : b48 ≠ b56 := Nat.ne_of_lt (Nat.lt_of_lt_of_le f54.lt (Nat.le_of_eq g56.symm))
                                have gg56 : n0 ≤ b56 := Nat.le_trans Zs48 (Nat.le_of_eq g56.symm)
                                have sz56_0 : h0.size ≤ b56 := Nat.le_trans K48_0.1 (Nat.le_of_eq g56.symm)
                                have Zs56 : n0 ≤ h56.size := Nat.le_trans Zs48 E56.1
                                have K56_0 : Keep h0 h56 [] := K48_0.ext E56
                                have f60 : Old Z n0 h56 := f51.ext E56
                                have f61 : Arv Z h56 b1 k1 .char (6 : Int32) [(.int (nar .char u0)), (.int (nar .char u1)), (.int (nar .char u2)), (.int (nar .char u3)), (.int (nar .char u4)), (.int (nar .char u5))] (.int (0 : Int32)) := f52.ext E56
                                have f62 : Arv Z h56 b28 k28 .char (3 : Int32) [(.int (nar .char u6)), (.int (nar .char u7)), (.int (nar .char u8))] (.int (0 : Int32)) := f53.ext E56
                                have f63 : Exa Z h56 b48 "com/example/hence/hence/reasoning/Decimal" := f54.ext E56
                                have f64 : Fld Z h56 b48 "com/example/hence/hence/reasoning/Decimal" "canonical" "Ljava/lang/String;" .null := f55.ext E56
                                have f65 : Exa Z h56 b56 "java/lang/String" := A56
                                have f66 : Fld Z h56 b56 "java/lang/String" "coder" "B" (.int (0 : Int32)) := D56 (Or.inr (hw _ (List.mem_of_getElem? (i := 37) rfl))) (ty := .byte) (by decide)
                                have f67 : Fld Z h56 b56 "java/lang/String" "value" "[B" .null := D56 (Or.inr (hw _ (List.mem_of_getElem? (i := 39) rfl))) (ty := (.array .byte)) (by decide)
                                refine own_go (fun _ k => st56 _ k) ?_
                                show own_G _ _ _ (T56.setTop (mkF m 212 #[.val (.int p0), .val (.int p1), .val (.long p2), .second, .val (.int s6), .val (.int l6), .val (.int m6), .val (.ref b1), .val (.int s3), .val (.int l3), .val (.int m3), .val (.long ((p2.toUInt64 >>> ((24 : Int32) &&& 0x3f).toInt64.toUInt64).toInt64)), .second, .val (.ref b28), .unset, .unset] [(.ref b56), (.ref b48), (.ref b48)])) _ _ _ _
                                refine own_go (fun _ k => XS.dup X56.here hx rfl (hb hby at_212) rfl rfl k) ?_
                                show own_G _ _ _ (T56.setTop (mkF m 213 #[.val (.int p0), .val (.int p1), .val (.long p2), .second, .val (.int s6), .val (.int l6), .val (.int m6), .val (.ref b1), .val (.int s3), .val (.int l3), .val (.int m3), .val (.long ((p2.toUInt64 >>> ((24 : Int32) &&& 0x3f).toInt64.toUInt64).toInt64)), .second, .val (.ref b28), .unset, .unset] [(.ref b56), (.ref b56), (.ref b48), (.ref b48)])) _ _ _ _
                                refine own_go (fun _ k => XS.aload X56.here hx rfl (hb hby at_213) rfl rfl k) ?_
                                show own_G _ _ _ (T56.setTop (mkF m 215 #[.val (.int p0), .val (.int p1), .val (.long p2), .second, .val (.int s6), .val (.int l6), .val (.int m6), .val (.ref b1), .val (.int s3), .val (.int l3), .val (.int m3), .val (.long ((p2.toUInt64 >>> ((24 : Int32) &&& 0x3f).toInt64.toUInt64).toInt64)), .second, .val (.ref b28), .unset, .unset] [(.ref b1), (.ref b56), (.ref b56), (.ref b48), (.ref b48)])) _ _ _ _
                                have hp68 : ∀ c ∈ ([(nar .char u0), (nar .char u1), (nar .char u2), (nar .char u3), (nar .char u4), (nar .char u5)] : List Int32), ¬ c < 0 ∧ ¬ (255 : Int32) < c := (fun c hc => by
      simp only [List.mem_cons, List.not_mem_nil, or_false] at hc
      rcases hc with rfl | rfl | rfl | rfl | rfl | rfl <;> first | exact own_hpx h_u0 | exact own_hpx h_u1 | exact own_hpx h_u2 | exact own_hpx h_u3 | exact own_hpx h_u4 | exact own_hpx h_u5)
                                have hws68 : ∀ d ∈ StrChars.Road.words, d.before a0 Z = true := fun d hd => hw d (own_words d hd)
                                obtain ⟨_, _, ⟨T68, L68, k68, n68⟩, -, X68, ⟨Lc68, hQ68, l68, y68, z68⟩, st68⟩ := X56.specialBack hx (y := (⟨"java/lang/String", "<init>", "([C)V"⟩ : MethodName)) rfl hown (mvT hZ (hw _ (List.mem_of_getElem? (i := 14) rfl))) (mvT hZ (hw _ (List.mem_of_getElem? (i := 15) rfl))) (mvT hZ (hw _ (List.mem_of_getElem? (i := 16) rfl))) (by decide) (StrChars.Road.backV (W := 3) hZ hws68 (kI := 4) (hw _ (List.mem_of_getElem? (i := 12) rfl)) (cs := ([(nar .char u0), (nar .char u1), (nar .char u2), (nar .char u3), (nar .char u4), (nar .char u5)] : List Int32)) (bs := ([(nar .char u0), (nar .char u1), (nar .char u2), (nar .char u3), (nar .char u4), (nar .char u5)] : List Int32).map (fun c => c.toInt8.toInt32)) (n := 6) gg56 Zs56 f65 f67 f66 f61 (P_ZS_java_lang_String_COMPACT_STRINGS.ext f60.2) hcs rfl rfl (by decide) (by decide) hp68 rfl (by decide) (by decide)) (g := (mkF m 215 #[.val (.int p0), .val (.int p1), .val (.long p2), .second, .val (.int s6), .val (.int l6), .val (.int m6), .val (.ref b1), .val (.int s3), .val (.int l3), .val (.int m3), .val (.long ((p2.toUInt64 >>> ((24 : Int32) &&& 0x3f).toInt64.toUInt64).toInt64)), .second, .val (.ref b28), .unset, .unset] [(.ref b1), (.ref b56), (.ref b56), (.ref b48), (.ref b48)])) rfl (by rw [hml]; rfl) (Steps.refl _) (a := b56) (argsL := [(.ref b1)]) (rest := [(.ref b56), (.ref b48), (.ref b48)]) (lenOf pd_9 rfl) rfl (by show 2 * 0 + _ ≤ _; exact Nat.le_of_eq rfl) (hb hby at_215) (fun _ _ => ⟨rfl, e56, (by decide : 4 + 1 ≤ _), (by decide : 14 + 6 ≤ _)⟩)
                                dsimp only [Pt.U, Pt.locs, Pt.cells, Pt.slots] at X68 l68 y68 z68 st68 hQ68
                                rw [l68] at X68
                                subst y68 z68
                                obtain ⟨rfl, Nq68, Kq68, xs68, cd68, t68, kb68, nt68, ht68, nx68, vl68, vb68⟩ := hQ68
                                have N68 := Fr.app N44 Nq68
                                have ne69 : b1 ≠ t68 := Nat.ne_of_lt (Nat.lt_of_lt_of_le f61.lt ht68)
                                have ne70 : b28 ≠ t68 := Nat.ne_of_lt (Nat.lt_of_lt_of_le f62.lt ht68)
                                have ne71 : b48 ≠ t68 := Nat.ne_of_lt (Nat.lt_of_lt_of_le f63.lt ht68)
                                have ne72 : b56 ≠ t68 := Nat.ne_of_lt (Nat.lt_of_lt_of_le f65.lt ht68)
                                have sz_t68_0 : h0.size ≤ t68 := Nat.le_trans K56_0.1 ht68
                                have f73 : Old Z n0 T68.heap := f60.keep Kq68 (allS gg56 all0)
                                have f74 : Arv Z T68.heap b1 k1 .char (6 : Int32) [(.int (nar .char u0)), (.int (nar .char u1)), (.int (nar .char u2)), (.int (nar .char u3)), (.int (nar .char u4)), (.int (nar .char u5))] (.int (0 : Int32)) := f61.keep Kq68 (ninS ne57 nin0)
                                have f75 : Arv Z T68.heap b28 k28 .char (3 : Int32) [(.int (nar .char u6)), (.int (nar .char u7)), (.int (nar .char u8))] (.int (0 : Int32)) := f62.keep Kq68 (ninS ne58 nin0)
                                have f76 : Exa Z T68.heap b48 "com/example/hence/hence/reasoning/Decimal" := f63.keep Kq68
                                have f77 : Fld Z T68.heap b48 "com/example/hence/hence/reasoning/Decimal" "canonical" "Ljava/lang/String;" .null := f64.keep Kq68 (ninS ne59 nin0)
                                have f78 : Exa Z T68.heap b56 "java/lang/String" := f65.keep Kq68
                                have Zs68 : n0 ≤ T68.heap.size := Nat.le_trans Zs56 Kq68.1
                                have K68_0 : Keep h0 T68.heap [] := K56_0.trans Kq68 (allS (Or.inr sz56_0) all0)
                                have f79 : Arv Z T68.heap t68 kb68 .byte (6 : Int32) [(.int ((nar .char u0)).toInt8.toInt32), (.int ((nar .char u1)).toInt8.toInt32), (.int ((nar .char u2)).toInt8.toInt32), (.int ((nar .char u3)).toInt8.toInt32), (.int ((nar .char u4)).toInt8.toInt32), (.int ((nar .char u5)).toInt8.toInt32)] (.int (0 : Int32)) := vb68
                                refine own_tr st68 ?_
                                show own_G _ _ _ (T68.setTop (mkF m 218 #[.val (.int p0), .val (.int p1), .val (.long p2), .second, .val (.int s6), .val (.int l6), .val (.int m6), .val (.ref b1), .val (.int s3), .val (.int l3), .val (.int m3), .val (.long ((p2.toUInt64 >>> ((24 : Int32) &&& 0x3f).toInt64.toUInt64).toInt64)), .second, .val (.ref b28), .unset, .unset] [(.ref b56), (.ref b48), (.ref b48)])) _ _ _ _
                                obtain ⟨_, _, ⟨T80, L80, k80, n80⟩, -, X80, ⟨Lc80, hQ80, l80, y80, z80⟩, st80⟩ := X68.specialBack hx (y := (⟨"com/example/hence/hence/reasoning/Decimal", "<init>", "(Ljava/lang/String;)V"⟩ : MethodName)) rfl hown (mvT hZ (hw _ (List.mem_of_getElem? (i := 40) rfl))) (mvT hZ (hw _ (List.mem_of_getElem? (i := 41) rfl))) (mvT hZ (hw _ (List.mem_of_getElem? (i := 42) rfl))) (by decide) (backOf (W := 1) (rm8 l Z a0 hw [] b48 b56  T68.heap n0 Zs68 f76 f77 gg48) hZ (hw _ (List.mem_of_getElem? (i := 42) rfl)) (hw _ (List.mem_of_getElem? (i := 10) rfl)) (by decide) (by decide)) (g := (mkF m 218 #[.val (.int p0), .val (.int p1), .val (.long p2), .second, .val (.int s6), .val (.int l6), .val (.int m6), .val (.ref b1), .val (.int s3), .val (.int l3), .val (.int m3), .val (.long ((p2.toUInt64 >>> ((24 : Int32) &&& 0x3f).toInt64.toUInt64).toInt64)), .second, .val (.ref b28), .unset, .unset] [(.ref b56), (.ref b48), (.ref b48)])) rfl (by rw [hml]; rfl) (Steps.refl _) (a := b48) (argsL := [(.ref b56)]) (rest := [(.ref b48)]) (lenOf pd_10 rfl) rfl (by show 2 * 0 + _ ≤ _; exact Nat.le_of_eq rfl) (hb hby at_218) (fun _ _ => ⟨rfl, rfl, (by decide : 5 + 0 ≤ _), (by decide : 20 + 0 ≤ _)⟩)
                                dsimp only [Pt.U, Pt.locs, Pt.cells, Pt.slots] at X80 l80 y80 z80 st80 hQ80
                                rw [l80] at X80
                                subst y80 z80
                                obtain ⟨rfl, Nq80, Kq80, r80_0, r80_1⟩ := hQ80
                                have N80 := Fr.app N68 Nq80
                                have f81 : Old Z n0 T80.heap := f73.keep Kq80 (allS gg48 all0)
                                have f82 : Arv Z T80.heap b1 k1 .char (6 : Int32) [(.int (nar .char u0)), (.int (nar .char u1)), (.int (nar .char u2)), (.int (nar .char u3)), (.int (nar .char u4)), (.int (nar .char u5))] (.int (0 : Int32)) := f74.keep Kq80 (ninS ne49 nin0)
                                have f83 : Arv Z T80.heap b28 k28 .char (3 : Int32) [(.int (nar .char u6)), (.int (nar .char u7)), (.int (nar .char u8))] (.int (0 : Int32)) := f75.keep Kq80 (ninS ne50 nin0)
                                have f84 : Exa Z T80.heap b48 "com/example/hence/hence/reasoning/Decimal" := f76.keep Kq80
                                have f85 : Exa Z T80.heap b56 "java/lang/String" := xs68.keep Kq80
                                have f86 : Fld Z T80.heap b56 "java/lang/String" "coder" "B" (.int 0) := cd68.keep Kq80 (ninS (Ne.symm ne59) nin0)
                                have f87 : Fld Z T80.heap b56 "java/lang/String" "value" "[B" (.ref t68) := vl68.keep Kq80 (ninS (Ne.symm ne59) nin0)
                                have f88 : Arv Z T80.heap t68 kb68 .byte (6 : Int32) [(.int ((nar .char u0)).toInt8.toInt32), (.int ((nar .char u1)).toInt8.toInt32), (.int ((nar .char u2)).toInt8.toInt32), (.int ((nar .char u3)).toInt8.toInt32), (.int ((nar .char u4)).toInt8.toInt32), (.int ((nar .char u5)).toInt8.toInt32)] (.int (0 : Int32)) := f79.keep Kq80 (ninS (Ne.symm ne71) nin0)
                                have Zs80 : n0 ≤ T80.heap.size := Nat.le_trans Zs68 Kq80.1
                                have K80_0 : Keep h0 T80.heap [] := K68_0.trans Kq80 (allS (Or.inr sz48_0) all0)
                                refine own_tr st80 ?_
                                show own_G _ _ _ (T80.setTop (mkF m 221 #[.val (.int p0), .val (.int p1), .val (.long p2), .second, .val (.int s6), .val (.int l6), .val (.int m6), .val (.ref b1), .val (.int s3), .val (.int l3), .val (.int m3), .val (.long ((p2.toUInt64 >>> ((24 : Int32) &&& 0x3f).toInt64.toUInt64).toInt64)), .second, .val (.ref b28), .unset, .unset] [(.ref b48)])) _ _ _ _
                                obtain ⟨cq89, kq89, q89a, q89b, q89c⟩ := isOf hZ rfl r80_0
                                obtain ⟨_, _, ⟨T89, L89, k89, n89⟩, -, X89, ⟨Lc89, hQ89, l89, y89, z89⟩, st89⟩ := X80.virtualBack hx (y := (⟨"com/example/hence/hence/reasoning/Decimal", "isInteger", "()Z"⟩ : MethodName)) (z := (⟨"com/example/hence/hence/reasoning/Decimal", "isInteger", "()Z"⟩ : MethodName)) hown (mvT hZ (hw _ (List.mem_of_getElem? (i := 51) rfl))) (mvT hZ (hw _ (List.mem_of_getElem? (i := 52) rfl))) (notFace_of_selects (args := #[]) (mvT hZ (hw _ (List.mem_of_getElem? (i := 54) rfl)))) (mvT hZ (hw _ (List.mem_of_getElem? (i := 54) rfl))) (mvT hZ (hw _ (List.mem_of_getElem? (i := 53) rfl))) (by decide) (backOf (W := 0) (rm10a l Z a0 hw [] b48 zc b56 t68 kb68 ((nar .char u0)).toInt8.toInt32 ((nar .char u1)).toInt8.toInt32 ((nar .char u2)).toInt8.toInt32 ((nar .char u3)).toInt8.toInt32 ((nar .char u4)).toInt8.toInt32 ((nar .char u5)).toInt8.toInt32 T80.heap n0 Zs80 f81 P_ZS_java_lang_String_COMPACT_STRINGS (by assumption) r80_1 f85 f86 f87 f88) hZ (hw _ (List.mem_of_getElem? (i := 55) rfl)) (hw _ (List.mem_of_getElem? (i := 10) rfl)) (by decide) (by decide)) q89a q89c (g := (mkF m 221 #[.val (.int p0), .val (.int p1), .val (.long p2), .second, .val (.int s6), .val (.int l6), .val (.int m6), .val (.ref b1), .val (.int s3), .val (.int l3), .val (.int m3), .val (.long ((p2.toUInt64 >>> ((24 : Int32) &&& 0x3f).toInt64.toUInt64).toInt64)), .second, .val (.ref b28), .unset, .unset] [(.ref b48)])) rfl (by rw [hml]; rfl) (Steps.refl _) (argsL := []) (rest := []) (lenOf pd_5 rfl) rfl (by show 2 * 0 + _ ≤ _; exact Nat.le_of_eq rfl) (hb hby at_221) (fun _ _ => ⟨rfl, rfl, (by decide : 5 + 0 ≤ _), (by decide : 20 + 0 ≤ _)⟩)
                                dsimp only [Pt.U, Pt.locs, Pt.cells, Pt.slots] at X89 l89 y89 z89 st89 hQ89
                                rw [l89] at X89
                                subst y89 z89
                                obtain ⟨rfl, Nq89, eh89⟩ := hQ89
                                have N89 := Fr.app N80 Nq89
                                refine own_tr st89 ?_
                                show own_G _ _ _ (T89.setTop (mkF m 224 #[.val (.int p0), .val (.int p1), .val (.long p2), .second, .val (.int s6), .val (.int l6), .val (.int m6), .val (.ref b1), .val (.int s3), .val (.int l3), .val (.int m3), .val (.long ((p2.toUInt64 >>> ((24 : Int32) &&& 0x3f).toInt64.toUInt64).toInt64)), .second, .val (.ref b28), .unset, .unset] [(.int (if (own_f6 ((nar .char u0)).toInt8.toInt32 ((nar .char u1)).toInt8.toInt32 ((nar .char u2)).toInt8.toInt32 ((nar .char u3)).toInt8.toInt32 ((nar .char u4)).toInt8.toInt32 ((nar .char u5)).toInt8.toInt32) < (0 : Int32) then (1 : Int32) else (0 : Int32)))])) _ _ _ _
                                refine own_go (fun _ k => XS.iload X89.here hx rfl (hb hby at_224) rfl k) ?_
                                show own_G _ _ _ (T89.setTop (mkF m 226 #[.val (.int p0), .val (.int p1), .val (.long p2), .second, .val (.int s6), .val (.int l6), .val (.int m6), .val (.ref b1), .val (.int s3), .val (.int l3), .val (.int m3), .val (.long ((p2.toUInt64 >>> ((24 : Int32) &&& 0x3f).toInt64.toUInt64).toInt64)), .second, .val (.ref b28), .unset, .unset] [(.int m6), (.int (if (own_f6 ((nar .char u0)).toInt8.toInt32 ((nar .char u1)).toInt8.toInt32 ((nar .char u2)).toInt8.toInt32 ((nar .char u3)).toInt8.toInt32 ((nar .char u4)).toInt8.toInt32 ((nar .char u5)).toInt8.toInt32) < (0 : Int32) then (1 : Int32) else (0 : Int32)))])) _ _ _ _
                                by_cases hc90 : m6 = (0 : Int32)
                                · refine own_go (fun _ k => XS.ifNo X89.here hx rfl (hb hby at_226) rfl ((if0 _ _).trans (teq hc90).2) k) ?_
                                  show own_G _ _ _ (T89.setTop (mkF m 229 #[.val (.int p0), .val (.int p1), .val (.long p2), .second, .val (.int s6), .val (.int l6), .val (.int m6), .val (.ref b1), .val (.int s3), .val (.int l3), .val (.int m3), .val (.long ((p2.toUInt64 >>> ((24 : Int32) &&& 0x3f).toInt64.toUInt64).toInt64)), .second, .val (.ref b28), .unset, .unset] [(.int (if (own_f6 ((nar .char u0)).toInt8.toInt32 ((nar .char u1)).toInt8.toInt32 ((nar .char u2)).toInt8.toInt32 ((nar .char u3)).toInt8.toInt32 ((nar .char u4)).toInt8.toInt32 ((nar .char u5)).toInt8.toInt32) < (0 : Int32) then (1 : Int32) else (0 : Int32)))])) _ _ _ _
                                  refine own_go (fun _ k => XS.iconst X89.here hx rfl (hb hby at_229) k) ?_
                                  show own_G _ _ _ (T89.setTop (mkF m 230 #[.val (.int p0), .val (.int p1), .val (.long p2), .second, .val (.int s6), .val (.int l6), .val (.int m6), .val (.ref b1), .val (.int s3), .val (.int l3), .val (.int m3), .val (.long ((p2.toUInt64 >>> ((24 : Int32) &&& 0x3f).toInt64.toUInt64).toInt64)), .second, .val (.ref b28), .unset, .unset] [(.int (1 : Int32)), (.int (if (own_f6 ((nar .char u0)).toInt8.toInt32 ((nar .char u1)).toInt8.toInt32 ((nar .char u2)).toInt8.toInt32 ((nar .char u3)).toInt8.toInt32 ((nar .char u4)).toInt8.toInt32 ((nar .char u5)).toInt8.toInt32) < (0 : Int32) then (1 : Int32) else (0 : Int32)))])) _ _ _ _
                                  refine own_go (fun _ k => XS.goto X89.here hx rfl (pc0 := 230) (pc' := 234) rfl (hb hby at_230) (by decide) (by decide) k) ?_
                                  show own_G _ _ _ (T89.setTop (mkF m 234 #[.val (.int p0), .val (.int p1), .val (.long p2), .second, .val (.int s6), .val (.int l6), .val (.int m6), .val (.ref b1), .val (.int s3), .val (.int l3), .val (.int m3), .val (.long ((p2.toUInt64 >>> ((24 : Int32) &&& 0x3f).toInt64.toUInt64).toInt64)), .second, .val (.ref b28), .unset, .unset] [(.int (1 : Int32)), (.int (if (own_f6 ((nar .char u0)).toInt8.toInt32 ((nar .char u1)).toInt8.toInt32 ((nar .char u2)).toInt8.toInt32 ((nar .char u3)).toInt8.toInt32 ((nar .char u4)).toInt8.toInt32 ((nar .char u5)).toInt8.toInt32) < (0 : Int32) then (1 : Int32) else (0 : Int32)))])) _ _ _ _
                                  have hc91 : (if (own_f6 ((nar .char u0)).toInt8.toInt32 ((nar .char u1)).toInt8.toInt32 ((nar .char u2)).toInt8.toInt32 ((nar .char u3)).toInt8.toInt32 ((nar .char u4)).toInt8.toInt32 ((nar .char u5)).toInt8.toInt32) < (0 : Int32) then (1 : Int32) else (0 : Int32)) = (1 : Int32) := own_r6x h_u0 h_u1 h_u2 h_u3 h_u4 h_u5 H6 hc90
                                  refine own_go (fun _ k => XS.icmpNo X89.here hx rfl (hb hby at_234) rfl (teq hc91).2 k) ?_
                                  show own_G _ _ _ (T89.setTop (mkF m 237 #[.val (.int p0), .val (.int p1), .val (.long p2), .second, .val (.int s6), .val (.int l6), .val (.int m6), .val (.ref b1), .val (.int s3), .val (.int l3), .val (.int m3), .val (.long ((p2.toUInt64 >>> ((24 : Int32) &&& 0x3f).toInt64.toUInt64).toInt64)), .second, .val (.ref b28), .unset, .unset] [])) _ _ _ _
                                  refine own_go (fun _ k => XS.iconst X89.here hx rfl (hb hby at_237) k) ?_
                                  show own_G _ _ _ (T89.setTop (mkF m 238 #[.val (.int p0), .val (.int p1), .val (.long p2), .second, .val (.int s6), .val (.int l6), .val (.int m6), .val (.ref b1), .val (.int s3), .val (.int l3), .val (.int m3), .val (.long ((p2.toUInt64 >>> ((24 : Int32) &&& 0x3f).toInt64.toUInt64).toInt64)), .second, .val (.ref b28), .unset, .unset] [(.int (1 : Int32))])) _ _ _ _
                                  refine own_go (fun _ k => XS.goto X89.here hx rfl (pc0 := 238) (pc' := 242) rfl (hb hby at_238) (by decide) (by decide) k) ?_
                                  show own_G _ _ _ (T89.setTop (mkF m 242 #[.val (.int p0), .val (.int p1), .val (.long p2), .second, .val (.int s6), .val (.int l6), .val (.int m6), .val (.ref b1), .val (.int s3), .val (.int l3), .val (.int m3), .val (.long ((p2.toUInt64 >>> ((24 : Int32) &&& 0x3f).toInt64.toUInt64).toInt64)), .second, .val (.ref b28), .unset, .unset] [(.int (1 : Int32))])) _ _ _ _
                                  refine own_go (fun _ k => XS.istore X89.here hx rfl (hb hby at_242) rfl (l' := #[.val (.int p0), .val (.int p1), .val (.long p2), .second, .val (.int s6), .val (.int l6), .val (.int m6), .val (.ref b1), .val (.int s3), .val (.int l3), .val (.int m3), .val (.long ((p2.toUInt64 >>> ((24 : Int32) &&& 0x3f).toInt64.toUInt64).toInt64)), .second, .val (.ref b28), .val (.int (1 : Int32)), .unset]) rfl k) ?_
                                  show own_G _ _ _ (T89.setTop (mkF m 244 #[.val (.int p0), .val (.int p1), .val (.long p2), .second, .val (.int s6), .val (.int l6), .val (.int m6), .val (.ref b1), .val (.int s3), .val (.int l3), .val (.int m3), .val (.long ((p2.toUInt64 >>> ((24 : Int32) &&& 0x3f).toInt64.toUInt64).toInt64)), .second, .val (.ref b28), .val (.int (1 : Int32)), .unset] [])) _ _ _ _
                                  obtain ⟨T92, h92, X92, e92, E92, A92, D92, -, st92⟩ := newO X89 hx hZ hown (hw _ (List.mem_of_getElem? (i := 8) rfl)) (hw _ (List.mem_of_getElem? (i := 9) rfl)) (hw _ (List.mem_of_getElem? (i := 10) rfl)) eh89 (g := (mkF m 244 #[.val (.int p0), .val (.int p1), .val (.long p2), .second, .val (.int s6), .val (.int l6), .val (.int m6), .val (.ref b1), .val (.int s3), .val (.int l3), .val (.int m3), .val (.long ((p2.toUInt64 >>> ((24 : Int32) &&& 0x3f).toInt64.toUInt64).toInt64)), .second, .val (.ref b28), .val (.int (1 : Int32)), .unset] [])) rfl (hb hby at_244) (by decide) (by decide)
                                  obtain ⟨b92, g92⟩ : ∃ z, z = T80.heap.size := ⟨_, rfl⟩
                                  rw [← g92] at A92 D92 st92
                                  have ne93 : b1 ≠ b92 := Nat.ne_of_lt (Nat.lt_of_lt_of_le f82.lt (Nat.le_of_eq g92.symm))
                                  have ne94 : b28 ≠ b92 := Nat.ne_of_lt (Nat.lt_of_lt_of_le f83.lt (Nat.le_of_eq g92.symm))
                                  have ne95 : b48 ≠ b92 := Nat.ne_of_lt (Nat.lt_of_lt_of_le r80_0.lt (Nat.le_of_eq g92.symm))
                                  have ne96 : b56 ≠ b92 := Nat.ne_of_lt (Nat.lt_of_lt_of_le f85.lt (Nat.le_of_eq g92.symm))
                                  have ne97 : t68 ≠ b92 := Nat.ne_of_lt (Nat.lt_of_lt_of_le f88.lt (Nat.le_of_eq g92.symm))
                                  have gg92 : n0 ≤ b92 := Nat.le_trans Zs80 (Nat.le_of_eq g92.symm)
                                  have sz92_0 : h0.size ≤ b92 := Nat.le_trans K80_0.1 (Nat.le_of_eq g92.symm)
                                  have Zs92 : n0 ≤ h92.size := Nat.le_trans Zs80 E92.1
                                  have K92_0 : Keep h0 h92 [] := K80_0.ext E92
                                  have f98 : Old Z n0 h92 := f81.ext E92
                                  have f99 : Arv Z h92 b1 k1 .char (6 : Int32) [(.int (nar .char u0)), (.int (nar .char u1)), (.int (nar .char u2)), (.int (nar .char u3)), (.int (nar .char u4)), (.int (nar .char u5))] (.int (0 : Int32)) := f82.ext E92
                                  have f100 : Arv Z h92 b28 k28 .char (3 : Int32) [(.int (nar .char u6)), (.int (nar .char u7)), (.int (nar .char u8))] (.int (0 : Int32)) := f83.ext E92
                                  have f101 : Exa Z h92 b48 "com/example/hence/hence/reasoning/Decimal" := r80_0.ext E92
                                  have f102 : Exa Z h92 b56 "java/lang/String" := f85.ext E92
                                  have f103 : Fld Z h92 b56 "java/lang/String" "coder" "B" (.int 0) := f86.ext E92
                                  have f104 : Fld Z h92 b56 "java/lang/String" "value" "[B" (.ref t68) := f87.ext E92
                                  have f105 : Arv Z h92 t68 kb68 .byte (6 : Int32) [(.int ((nar .char u0)).toInt8.toInt32), (.int ((nar .char u1)).toInt8.toInt32), (.int ((nar .char u2)).toInt8.toInt32), (.int ((nar .char u3)).toInt8.toInt32), (.int ((nar .char u4)).toInt8.toInt32), (.int ((nar .char u5)).toInt8.toInt32)] (.int (0 : Int32)) := f88.ext E92
                                  have f106 : Fld Z h92 b48 "com/example/hence/hence/reasoning/Decimal" "canonical" "Ljava/lang/String;" (.ref b56) := r80_1.ext E92
                                  have f107 : Exa Z h92 b92 "com/example/hence/hence/reasoning/Decimal" := A92
                                  have f108 : Fld Z h92 b92 "com/example/hence/hence/reasoning/Decimal" "canonical" "Ljava/lang/String;" .null := D92 (Or.inr (hw _ (List.mem_of_getElem? (i := 50) rfl))) (ty := (.object "java/lang/String")) (by decide)
                                  refine own_go (fun _ k => st92 _ k) ?_
                                  show own_G _ _ _ (T92.setTop (mkF m 247 #[.val (.int p0), .val (.int p1), .val (.long p2), .second, .val (.int s6), .val (.int l6), .val (.int m6), .val (.ref b1), .val (.int s3), .val (.int l3), .val (.int m3), .val (.long ((p2.toUInt64 >>> ((24 : Int32) &&& 0x3f).toInt64.toUInt64).toInt64)), .second, .val (.ref b28), .val (.int (1 : Int32)), .unset] [(.ref b92)])) _ _ _ _
                                  refine own_go (fun _ k => XS.dup X92.here hx rfl (hb hby at_247) rfl rfl k) ?_
                                  show own_G _ _ _ (T92.setTop (mkF m 248 #[.val (.int p0), .val (.int p1), .val (.long p2), .second, .val (.int s6), .val (.int l6), .val (.int m6), .val (.ref b1), .val (.int s3), .val (.int l3), .val (.int m3), .val (.long ((p2.toUInt64 >>> ((24 : Int32) &&& 0x3f).toInt64.toUInt64).toInt64)), .second, .val (.ref b28), .val (.int (1 : Int32)), .unset] [(.ref b92), (.ref b92)])) _ _ _ _
                                  obtain ⟨T109, h109, X109, e109, E109, A109, D109, -, st109⟩ := newO X92 hx hZ hown (hw _ (List.mem_of_getElem? (i := 11) rfl)) (hw _ (List.mem_of_getElem? (i := 12) rfl)) (hw _ (List.mem_of_getElem? (i := 13) rfl)) e92 (g := (mkF m 248 #[.val (.int p0), .val (.int p1), .val (.long p2), .second, .val (.int s6), .val (.int l6), .val (.int m6), .val (.ref b1), .val (.int s3), .val (.int l3), .val (.int m3), .val (.long ((p2.toUInt64 >>> ((24 : Int32) &&& 0x3f).toInt64.toUInt64).toInt64)), .second, .val (.ref b28), .val (.int (1 : Int32)), .unset] [(.ref b92), (.ref b92)])) rfl (hb hby at_248) (by decide) (by decide)
                                  obtain ⟨b109, g109⟩ : ∃ z, z = h92.size := ⟨_, rfl⟩
                                  rw [← g109] at A109 D109 st109
                                  have ne110 : b1 ≠ b109 := Nat.ne_of_lt (Nat.lt_of_lt_of_le f99.lt (Nat.le_of_eq g109.symm))
                                  have ne111 : b28 ≠ b109 := Nat.ne_of_lt (Nat.lt_of_lt_of_le f100.lt (Nat.le_of_eq g109.symm))
                                  have ne112 : b48 ≠ b109 := Nat.ne_of_lt (Nat.lt_of_lt_of_le f101.lt (Nat.le_of_eq g109.symm))
                                  have ne113 : b56 ≠ b109 := Nat.ne_of_lt (Nat.lt_of_lt_of_le f102.lt (Nat.le_of_eq g109.symm))
                                  have ne114 : t68 ≠ b109 := Nat.ne_of_lt (Nat.lt_of_lt_of_le f105.lt (Nat.le_of_eq g109.symm))
                                  have ne115 : b92 ≠ b109 := Nat.ne_of_lt (Nat.lt_of_lt_of_le f107.lt (Nat.le_of_eq g109.symm))
                                  have gg109 : n0 ≤ b109 := Nat.le_trans Zs92 (Nat.le_of_eq g109.symm)
                                  have sz109_0 : h0.size ≤ b109 := Nat.le_trans K92_0.1 (Nat.le_of_eq g109.symm)
                                  have Zs109 : n0 ≤ h109.size := Nat.le_trans Zs92 E109.1
                                  have K109_0 : Keep h0 h109 [] := K92_0.ext E109
                                  have f116 : Old Z n0 h109 := f98.ext E109
                                  have f117 : Arv Z h109 b1 k1 .char (6 : Int32) [(.int (nar .char u0)), (.int (nar .char u1)), (.int (nar .char u2)), (.int (nar .char u3)), (.int (nar .char u4)), (.int (nar .char u5))] (.int (0 : Int32)) := f99.ext E109
                                  have f118 : Arv Z h109 b28 k28 .char (3 : Int32) [(.int (nar .char u6)), (.int (nar .char u7)), (.int (nar .char u8))] (.int (0 : Int32)) := f100.ext E109
                                  have f119 : Exa Z h109 b48 "com/example/hence/hence/reasoning/Decimal" := f101.ext E109
                                  have f120 : Exa Z h109 b56 "java/lang/String" := f102.ext E109
                                  have f121 : Fld Z h109 b56 "java/lang/String" "coder" "B" (.int 0) := f103.ext E109
                                  have f122 : Fld Z h109 b56 "java/lang/String" "value" "[B" (.ref t68) := f104.ext E109
                                  have f123 : Arv Z h109 t68 kb68 .byte (6 : Int32) [(.int ((nar .char u0)).toInt8.toInt32), (.int ((nar .char u1)).toInt8.toInt32), (.int ((nar .char u2)).toInt8.toInt32), (.int ((nar .char u3)).toInt8.toInt32), (.int ((nar .char u4)).toInt8.toInt32), (.int ((nar .char u5)).toInt8.toInt32)] (.int (0 : Int32)) := f105.ext E109
                                  have f124 : Fld Z h109 b48 "com/example/hence/hence/reasoning/Decimal" "canonical" "Ljava/lang/String;" (.ref b56) := f106.ext E109
                                  have f125 : Exa Z h109 b92 "com/example/hence/hence/reasoning/Decimal" := f107.ext E109
                                  have f126 : Fld Z h109 b92 "com/example/hence/hence/reasoning/Decimal" "canonical" "Ljava/lang/String;" .null := f108.ext E109
                                  have f127 : Exa Z h109 b109 "java/lang/String" := A109
                                  have f128 : Fld Z h109 b109 "java/lang/String" "coder" "B" (.int (0 : Int32)) := D109 (Or.inr (hw _ (List.mem_of_getElem? (i := 37) rfl))) (ty := .byte) (by decide)
                                  have f129 : Fld Z h109 b109 "java/lang/String" "value" "[B" .null := D109 (Or.inr (hw _ (List.mem_of_getElem? (i := 39) rfl))) (ty := (.array .byte)) (by decide)
                                  refine own_go (fun _ k => st109 _ k) ?_
                                  show own_G _ _ _ (T109.setTop (mkF m 251 #[.val (.int p0), .val (.int p1), .val (.long p2), .second, .val (.int s6), .val (.int l6), .val (.int m6), .val (.ref b1), .val (.int s3), .val (.int l3), .val (.int m3), .val (.long ((p2.toUInt64 >>> ((24 : Int32) &&& 0x3f).toInt64.toUInt64).toInt64)), .second, .val (.ref b28), .val (.int (1 : Int32)), .unset] [(.ref b109), (.ref b92), (.ref b92)])) _ _ _ _
                                  refine own_go (fun _ k => XS.dup X109.here hx rfl (hb hby at_251) rfl rfl k) ?_
                                  show own_G _ _ _ (T109.setTop (mkF m 252 #[.val (.int p0), .val (.int p1), .val (.long p2), .second, .val (.int s6), .val (.int l6), .val (.int m6), .val (.ref b1), .val (.int s3), .val (.int l3), .val (.int m3), .val (.long ((p2.toUInt64 >>> ((24 : Int32) &&& 0x3f).toInt64.toUInt64).toInt64)), .second, .val (.ref b28), .val (.int (1 : Int32)), .unset] [(.ref b109), (.ref b109), (.ref b92), (.ref b92)])) _ _ _ _
                                  refine own_go (fun _ k => XS.aload X109.here hx rfl (hb hby at_252) rfl rfl k) ?_
                                  show own_G _ _ _ (T109.setTop (mkF m 254 #[.val (.int p0), .val (.int p1), .val (.long p2), .second, .val (.int s6), .val (.int l6), .val (.int m6), .val (.ref b1), .val (.int s3), .val (.int l3), .val (.int m3), .val (.long ((p2.toUInt64 >>> ((24 : Int32) &&& 0x3f).toInt64.toUInt64).toInt64)), .second, .val (.ref b28), .val (.int (1 : Int32)), .unset] [(.ref b28), (.ref b109), (.ref b109), (.ref b92), (.ref b92)])) _ _ _ _
                                  have hp130 : ∀ c ∈ ([(nar .char u6), (nar .char u7), (nar .char u8)] : List Int32), ¬ c < 0 ∧ ¬ (255 : Int32) < c := (fun c hc => by
      simp only [List.mem_cons, List.not_mem_nil, or_false] at hc
      rcases hc with rfl | rfl | rfl <;> first | exact own_hpx h_u6 | exact own_hpx h_u7 | exact own_hpx h_u8)
                                  have hws130 : ∀ d ∈ StrChars.Road.words, d.before a0 Z = true := fun d hd => hw d (own_words d hd)
                                  obtain ⟨_, _, ⟨T130, L130, k130, n130⟩, -, X130, ⟨Lc130, hQ130, l130, y130, z130⟩, st130⟩ := X109.specialBack hx (y := (⟨"java/lang/String", "<init>", "([C)V"⟩ : MethodName)) rfl hown (mvT hZ (hw _ (List.mem_of_getElem? (i := 14) rfl))) (mvT hZ (hw _ (List.mem_of_getElem? (i := 15) rfl))) (mvT hZ (hw _ (List.mem_of_getElem? (i := 16) rfl))) (by decide) (StrChars.Road.backV (W := 3) hZ hws130 (kI := 4) (hw _ (List.mem_of_getElem? (i := 12) rfl)) (cs := ([(nar .char u6), (nar .char u7), (nar .char u8)] : List Int32)) (bs := ([(nar .char u6), (nar .char u7), (nar .char u8)] : List Int32).map (fun c => c.toInt8.toInt32)) (n := 3) gg109 Zs109 f127 f129 f128 f118 (P_ZS_java_lang_String_COMPACT_STRINGS.ext f116.2) hcs rfl rfl (by decide) (by decide) hp130 rfl (by decide) (by decide)) (g := (mkF m 254 #[.val (.int p0), .val (.int p1), .val (.long p2), .second, .val (.int s6), .val (.int l6), .val (.int m6), .val (.ref b1), .val (.int s3), .val (.int l3), .val (.int m3), .val (.long ((p2.toUInt64 >>> ((24 : Int32) &&& 0x3f).toInt64.toUInt64).toInt64)), .second, .val (.ref b28), .val (.int (1 : Int32)), .unset] [(.ref b28), (.ref b109), (.ref b109), (.ref b92), (.ref b92)])) rfl (by rw [hml]; rfl) (Steps.refl _) (a := b109) (argsL := [(.ref b28)]) (rest := [(.ref b109), (.ref b92), (.ref b92)]) (lenOf pd_9 rfl) rfl (by show 2 * 0 + _ ≤ _; exact Nat.le_of_eq rfl) (hb hby at_254) (fun _ _ => ⟨rfl, e109, (by decide : 7 + 1 ≤ _), (by decide : 25 + 3 ≤ _)⟩)
                                  dsimp only [Pt.U, Pt.locs, Pt.cells, Pt.slots] at X130 l130 y130 z130 st130 hQ130
                                  rw [l130] at X130
                                  subst y130 z130
                                  obtain ⟨rfl, Nq130, Kq130, xs130, cd130, t130, kb130, nt130, ht130, nx130, vl130, vb130⟩ := hQ130
                                  have N130 := Fr.app N89 Nq130
                                  have ne131 : b1 ≠ t130 := Nat.ne_of_lt (Nat.lt_of_lt_of_le f117.lt ht130)
                                  have ne132 : b28 ≠ t130 := Nat.ne_of_lt (Nat.lt_of_lt_of_le f118.lt ht130)
                                  have ne133 : b48 ≠ t130 := Nat.ne_of_lt (Nat.lt_of_lt_of_le f119.lt ht130)
                                  have ne134 : b56 ≠ t130 := Nat.ne_of_lt (Nat.lt_of_lt_of_le f120.lt ht130)
                                  have ne135 : t68 ≠ t130 := Nat.ne_of_lt (Nat.lt_of_lt_of_le f123.lt ht130)
                                  have ne136 : b92 ≠ t130 := Nat.ne_of_lt (Nat.lt_of_lt_of_le f125.lt ht130)
                                  have ne137 : b109 ≠ t130 := Nat.ne_of_lt (Nat.lt_of_lt_of_le f127.lt ht130)
                                  have sz_t130_0 : h0.size ≤ t130 := Nat.le_trans K109_0.1 ht130
                                  have f138 : Old Z n0 T130.heap := f116.keep Kq130 (allS gg109 all0)
                                  have f139 : Arv Z T130.heap b1 k1 .char (6 : Int32) [(.int (nar .char u0)), (.int (nar .char u1)), (.int (nar .char u2)), (.int (nar .char u3)), (.int (nar .char u4)), (.int (nar .char u5))] (.int (0 : Int32)) := f117.keep Kq130 (ninS ne110 nin0)
                                  have f140 : Arv Z T130.heap b28 k28 .char (3 : Int32) [(.int (nar .char u6)), (.int (nar .char u7)), (.int (nar .char u8))] (.int (0 : Int32)) := f118.keep Kq130 (ninS ne111 nin0)
                                  have f141 : Exa Z T130.heap b48 "com/example/hence/hence/reasoning/Decimal" := f119.keep Kq130
                                  have f142 : Exa Z T130.heap b56 "java/lang/String" := f120.keep Kq130
                                  have f143 : Fld Z T130.heap b56 "java/lang/String" "coder" "B" (.int 0) := f121.keep Kq130 (ninS ne113 nin0)
                                  have f144 : Fld Z T130.heap b56 "java/lang/String" "value" "[B" (.ref t68) := f122.keep Kq130 (ninS ne113 nin0)
                                  have f145 : Arv Z T130.heap t68 kb68 .byte (6 : Int32) [(.int ((nar .char u0)).toInt8.toInt32), (.int ((nar .char u1)).toInt8.toInt32), (.int ((nar .char u2)).toInt8.toInt32), (.int ((nar .char u3)).toInt8.toInt32), (.int ((nar .char u4)).toInt8.toInt32), (.int ((nar .char u5)).toInt8.toInt32)] (.int (0 : Int32)) := f123.keep Kq130 (ninS ne114 nin0)
                                  have f146 : Fld Z T130.heap b48 "com/example/hence/hence/reasoning/Decimal" "canonical" "Ljava/lang/String;" (.ref b56) := f124.keep Kq130 (ninS ne112 nin0)
                                  have f147 : Exa Z T130.heap b92 "com/example/hence/hence/reasoning/Decimal" := f125.keep Kq130
                                  have f148 : Fld Z T130.heap b92 "com/example/hence/hence/reasoning/Decimal" "canonical" "Ljava/lang/String;" .null := f126.keep Kq130 (ninS ne115 nin0)
                                  have f149 : Exa Z T130.heap b109 "java/lang/String" := f127.keep Kq130
                                  have Zs130 : n0 ≤ T130.heap.size := Nat.le_trans Zs109 Kq130.1
                                  have K130_0 : Keep h0 T130.heap [] := K109_0.trans Kq130 (allS (Or.inr sz109_0) all0)
                                  have f150 : Arv Z T130.heap t130 kb130 .byte (3 : Int32) [(.int ((nar .char u6)).toInt8.toInt32), (.int ((nar .char u7)).toInt8.toInt32), (.int ((nar .char u8)).toInt8.toInt32)] (.int (0 : Int32)) := vb130
                                  refine own_tr st130 ?_
                                  show own_G _ _ _ (T130.setTop (mkF m 257 #[.val (.int p0), .val (.int p1), .val (.long p2), .second, .val (.int s6), .val (.int l6), .val (.int m6), .val (.ref b1), .val (.int s3), .val (.int l3), .val (.int m3), .val (.long ((p2.toUInt64 >>> ((24 : Int32) &&& 0x3f).toInt64.toUInt64).toInt64)), .second, .val (.ref b28), .val (.int (1 : Int32)), .unset] [(.ref b109), (.ref b92), (.ref b92)])) _ _ _ _
                                  obtain ⟨_, _, ⟨T151, L151, k151, n151⟩, -, X151, ⟨Lc151, hQ151, l151, y151, z151⟩, st151⟩ := X130.specialBack hx (y := (⟨"com/example/hence/hence/reasoning/Decimal", "<init>", "(Ljava/lang/String;)V"⟩ : MethodName)) rfl hown (mvT hZ (hw _ (List.mem_of_getElem? (i := 40) rfl))) (mvT hZ (hw _ (List.mem_of_getElem? (i := 41) rfl))) (mvT hZ (hw _ (List.mem_of_getElem? (i := 42) rfl))) (by decide) (backOf (W := 1) (rm8 l Z a0 hw [] b92 b109  T130.heap n0 Zs130 f147 f148 gg92) hZ (hw _ (List.mem_of_getElem? (i := 42) rfl)) (hw _ (List.mem_of_getElem? (i := 10) rfl)) (by decide) (by decide)) (g := (mkF m 257 #[.val (.int p0), .val (.int p1), .val (.long p2), .second, .val (.int s6), .val (.int l6), .val (.int m6), .val (.ref b1), .val (.int s3), .val (.int l3), .val (.int m3), .val (.long ((p2.toUInt64 >>> ((24 : Int32) &&& 0x3f).toInt64.toUInt64).toInt64)), .second, .val (.ref b28), .val (.int (1 : Int32)), .unset] [(.ref b109), (.ref b92), (.ref b92)])) rfl (by rw [hml]; rfl) (Steps.refl _) (a := b92) (argsL := [(.ref b109)]) (rest := [(.ref b92)]) (lenOf pd_10 rfl) rfl (by show 2 * 0 + _ ≤ _; exact Nat.le_of_eq rfl) (hb hby at_257) (fun _ _ => ⟨rfl, rfl, (by decide : 8 + 0 ≤ _), (by decide : 28 + 0 ≤ _)⟩)
                                  dsimp only [Pt.U, Pt.locs, Pt.cells, Pt.slots] at X151 l151 y151 z151 st151 hQ151
                                  rw [l151] at X151
                                  subst y151 z151
                                  obtain ⟨rfl, Nq151, Kq151, r151_0, r151_1⟩ := hQ151
                                  have N151 := Fr.app N130 Nq151
                                  have f152 : Old Z n0 T151.heap := f138.keep Kq151 (allS gg92 all0)
                                  have f153 : Arv Z T151.heap b1 k1 .char (6 : Int32) [(.int (nar .char u0)), (.int (nar .char u1)), (.int (nar .char u2)), (.int (nar .char u3)), (.int (nar .char u4)), (.int (nar .char u5))] (.int (0 : Int32)) := f139.keep Kq151 (ninS ne93 nin0)
                                  have f154 : Arv Z T151.heap b28 k28 .char (3 : Int32) [(.int (nar .char u6)), (.int (nar .char u7)), (.int (nar .char u8))] (.int (0 : Int32)) := f140.keep Kq151 (ninS ne94 nin0)
                                  have f155 : Exa Z T151.heap b48 "com/example/hence/hence/reasoning/Decimal" := f141.keep Kq151
                                  have f156 : Exa Z T151.heap b56 "java/lang/String" := f142.keep Kq151
                                  have f157 : Fld Z T151.heap b56 "java/lang/String" "coder" "B" (.int 0) := f143.keep Kq151 (ninS ne96 nin0)
                                  have f158 : Fld Z T151.heap b56 "java/lang/String" "value" "[B" (.ref t68) := f144.keep Kq151 (ninS ne96 nin0)
                                  have f159 : Arv Z T151.heap t68 kb68 .byte (6 : Int32) [(.int ((nar .char u0)).toInt8.toInt32), (.int ((nar .char u1)).toInt8.toInt32), (.int ((nar .char u2)).toInt8.toInt32), (.int ((nar .char u3)).toInt8.toInt32), (.int ((nar .char u4)).toInt8.toInt32), (.int ((nar .char u5)).toInt8.toInt32)] (.int (0 : Int32)) := f145.keep Kq151 (ninS ne97 nin0)
                                  have f160 : Fld Z T151.heap b48 "com/example/hence/hence/reasoning/Decimal" "canonical" "Ljava/lang/String;" (.ref b56) := f146.keep Kq151 (ninS ne95 nin0)
                                  have f161 : Exa Z T151.heap b92 "com/example/hence/hence/reasoning/Decimal" := f147.keep Kq151
                                  have f162 : Exa Z T151.heap b109 "java/lang/String" := xs130.keep Kq151
                                  have f163 : Fld Z T151.heap b109 "java/lang/String" "coder" "B" (.int 0) := cd130.keep Kq151 (ninS (Ne.symm ne115) nin0)
                                  have f164 : Fld Z T151.heap b109 "java/lang/String" "value" "[B" (.ref t130) := vl130.keep Kq151 (ninS (Ne.symm ne115) nin0)
                                  have f165 : Arv Z T151.heap t130 kb130 .byte (3 : Int32) [(.int ((nar .char u6)).toInt8.toInt32), (.int ((nar .char u7)).toInt8.toInt32), (.int ((nar .char u8)).toInt8.toInt32)] (.int (0 : Int32)) := f150.keep Kq151 (ninS (Ne.symm ne136) nin0)
                                  have Zs151 : n0 ≤ T151.heap.size := Nat.le_trans Zs130 Kq151.1
                                  have K151_0 : Keep h0 T151.heap [] := K130_0.trans Kq151 (allS (Or.inr sz92_0) all0)
                                  refine own_tr st151 ?_
                                  show own_G _ _ _ (T151.setTop (mkF m 260 #[.val (.int p0), .val (.int p1), .val (.long p2), .second, .val (.int s6), .val (.int l6), .val (.int m6), .val (.ref b1), .val (.int s3), .val (.int l3), .val (.int m3), .val (.long ((p2.toUInt64 >>> ((24 : Int32) &&& 0x3f).toInt64.toUInt64).toInt64)), .second, .val (.ref b28), .val (.int (1 : Int32)), .unset] [(.ref b92)])) _ _ _ _
                                  obtain ⟨cq166, kq166, q166a, q166b, q166c⟩ := isOf hZ rfl r151_0
                                  obtain ⟨_, _, ⟨T166, L166, k166, n166⟩, -, X166, ⟨Lc166, hQ166, l166, y166, z166⟩, st166⟩ := X151.virtualBack hx (y := (⟨"com/example/hence/hence/reasoning/Decimal", "isInteger", "()Z"⟩ : MethodName)) (z := (⟨"com/example/hence/hence/reasoning/Decimal", "isInteger", "()Z"⟩ : MethodName)) hown (mvT hZ (hw _ (List.mem_of_getElem? (i := 51) rfl))) (mvT hZ (hw _ (List.mem_of_getElem? (i := 52) rfl))) (notFace_of_selects (args := #[]) (mvT hZ (hw _ (List.mem_of_getElem? (i := 54) rfl)))) (mvT hZ (hw _ (List.mem_of_getElem? (i := 54) rfl))) (mvT hZ (hw _ (List.mem_of_getElem? (i := 53) rfl))) (by decide) (backOf (W := 0) (rm10b l Z a0 hw [] b92 zc b109 t130 kb130 ((nar .char u6)).toInt8.toInt32 ((nar .char u7)).toInt8.toInt32 ((nar .char u8)).toInt8.toInt32 T151.heap n0 Zs151 f152 P_ZS_java_lang_String_COMPACT_STRINGS (by assumption) r151_1 f162 f163 f164 f165) hZ (hw _ (List.mem_of_getElem? (i := 55) rfl)) (hw _ (List.mem_of_getElem? (i := 10) rfl)) (by decide) (by decide)) q166a q166c (g := (mkF m 260 #[.val (.int p0), .val (.int p1), .val (.long p2), .second, .val (.int s6), .val (.int l6), .val (.int m6), .val (.ref b1), .val (.int s3), .val (.int l3), .val (.int m3), .val (.long ((p2.toUInt64 >>> ((24 : Int32) &&& 0x3f).toInt64.toUInt64).toInt64)), .second, .val (.ref b28), .val (.int (1 : Int32)), .unset] [(.ref b92)])) rfl (by rw [hml]; rfl) (Steps.refl _) (argsL := []) (rest := []) (lenOf pd_5 rfl) rfl (by show 2 * 0 + _ ≤ _; exact Nat.le_of_eq rfl) (hb hby at_260) (fun _ _ => ⟨rfl, rfl, (by decide : 8 + 0 ≤ _), (by decide : 28 + 0 ≤ _)⟩)
                                  dsimp only [Pt.U, Pt.locs, Pt.cells, Pt.slots] at X166 l166 y166 z166 st166 hQ166
                                  rw [l166] at X166
                                  subst y166 z166
                                  obtain ⟨rfl, Nq166, eh166⟩ := hQ166
                                  have N166 := Fr.app N151 Nq166
                                  refine own_tr st166 ?_
                                  show own_G _ _ _ (T166.setTop (mkF m 263 #[.val (.int p0), .val (.int p1), .val (.long p2), .second, .val (.int s6), .val (.int l6), .val (.int m6), .val (.ref b1), .val (.int s3), .val (.int l3), .val (.int m3), .val (.long ((p2.toUInt64 >>> ((24 : Int32) &&& 0x3f).toInt64.toUInt64).toInt64)), .second, .val (.ref b28), .val (.int (1 : Int32)), .unset] [(.int (if (own_f3 ((nar .char u6)).toInt8.toInt32 ((nar .char u7)).toInt8.toInt32 ((nar .char u8)).toInt8.toInt32) < (0 : Int32) then (1 : Int32) else (0 : Int32)))])) _ _ _ _
                                  refine own_go (fun _ k => XS.iload X166.here hx rfl (hb hby at_263) rfl k) ?_
                                  show own_G _ _ _ (T166.setTop (mkF m 265 #[.val (.int p0), .val (.int p1), .val (.long p2), .second, .val (.int s6), .val (.int l6), .val (.int m6), .val (.ref b1), .val (.int s3), .val (.int l3), .val (.int m3), .val (.long ((p2.toUInt64 >>> ((24 : Int32) &&& 0x3f).toInt64.toUInt64).toInt64)), .second, .val (.ref b28), .val (.int (1 : Int32)), .unset] [(.int m3), (.int (if (own_f3 ((nar .char u6)).toInt8.toInt32 ((nar .char u7)).toInt8.toInt32 ((nar .char u8)).toInt8.toInt32) < (0 : Int32) then (1 : Int32) else (0 : Int32)))])) _ _ _ _
                                  by_cases hc167 : m3 = (0 : Int32)
                                  · refine own_go (fun _ k => XS.ifNo X166.here hx rfl (hb hby at_265) rfl ((if0 _ _).trans (teq hc167).2) k) ?_
                                    show own_G _ _ _ (T166.setTop (mkF m 268 #[.val (.int p0), .val (.int p1), .val (.long p2), .second, .val (.int s6), .val (.int l6), .val (.int m6), .val (.ref b1), .val (.int s3), .val (.int l3), .val (.int m3), .val (.long ((p2.toUInt64 >>> ((24 : Int32) &&& 0x3f).toInt64.toUInt64).toInt64)), .second, .val (.ref b28), .val (.int (1 : Int32)), .unset] [(.int (if (own_f3 ((nar .char u6)).toInt8.toInt32 ((nar .char u7)).toInt8.toInt32 ((nar .char u8)).toInt8.toInt32) < (0 : Int32) then (1 : Int32) else (0 : Int32)))])) _ _ _ _
                                    refine own_go (fun _ k => XS.iconst X166.here hx rfl (hb hby at_268) k) ?_
                                    show own_G _ _ _ (T166.setTop (mkF m 269 #[.val (.int p0), .val (.int p1), .val (.long p2), .second, .val (.int s6), .val (.int l6), .val (.int m6), .val (.ref b1), .val (.int s3), .val (.int l3), .val (.int m3), .val (.long ((p2.toUInt64 >>> ((24 : Int32) &&& 0x3f).toInt64.toUInt64).toInt64)), .second, .val (.ref b28), .val (.int (1 : Int32)), .unset] [(.int (1 : Int32)), (.int (if (own_f3 ((nar .char u6)).toInt8.toInt32 ((nar .char u7)).toInt8.toInt32 ((nar .char u8)).toInt8.toInt32) < (0 : Int32) then (1 : Int32) else (0 : Int32)))])) _ _ _ _
                                    refine own_go (fun _ k => XS.goto X166.here hx rfl (pc0 := 269) (pc' := 273) rfl (hb hby at_269) (by decide) (by decide) k) ?_
                                    show own_G _ _ _ (T166.setTop (mkF m 273 #[.val (.int p0), .val (.int p1), .val (.long p2), .second, .val (.int s6), .val (.int l6), .val (.int m6), .val (.ref b1), .val (.int s3), .val (.int l3), .val (.int m3), .val (.long ((p2.toUInt64 >>> ((24 : Int32) &&& 0x3f).toInt64.toUInt64).toInt64)), .second, .val (.ref b28), .val (.int (1 : Int32)), .unset] [(.int (1 : Int32)), (.int (if (own_f3 ((nar .char u6)).toInt8.toInt32 ((nar .char u7)).toInt8.toInt32 ((nar .char u8)).toInt8.toInt32) < (0 : Int32) then (1 : Int32) else (0 : Int32)))])) _ _ _ _
                                    have hc168 : (if (own_f3 ((nar .char u6)).toInt8.toInt32 ((nar .char u7)).toInt8.toInt32 ((nar .char u8)).toInt8.toInt32) < (0 : Int32) then (1 : Int32) else (0 : Int32)) = (1 : Int32) := own_r3x h_u6 h_u7 h_u8 H3 hc167
                                    refine own_go (fun _ k => XS.icmpNo X166.here hx rfl (hb hby at_273) rfl (teq hc168).2 k) ?_
                                    show own_G _ _ _ (T166.setTop (mkF m 276 #[.val (.int p0), .val (.int p1), .val (.long p2), .second, .val (.int s6), .val (.int l6), .val (.int m6), .val (.ref b1), .val (.int s3), .val (.int l3), .val (.int m3), .val (.long ((p2.toUInt64 >>> ((24 : Int32) &&& 0x3f).toInt64.toUInt64).toInt64)), .second, .val (.ref b28), .val (.int (1 : Int32)), .unset] [])) _ _ _ _
                                    refine own_go (fun _ k => XS.iconst X166.here hx rfl (hb hby at_276) k) ?_
                                    show own_G _ _ _ (T166.setTop (mkF m 277 #[.val (.int p0), .val (.int p1), .val (.long p2), .second, .val (.int s6), .val (.int l6), .val (.int m6), .val (.ref b1), .val (.int s3), .val (.int l3), .val (.int m3), .val (.long ((p2.toUInt64 >>> ((24 : Int32) &&& 0x3f).toInt64.toUInt64).toInt64)), .second, .val (.ref b28), .val (.int (1 : Int32)), .unset] [(.int (1 : Int32))])) _ _ _ _
                                    refine own_go (fun _ k => XS.goto X166.here hx rfl (pc0 := 277) (pc' := 281) rfl (hb hby at_277) (by decide) (by decide) k) ?_
                                    show own_G _ _ _ (T166.setTop (mkF m 281 #[.val (.int p0), .val (.int p1), .val (.long p2), .second, .val (.int s6), .val (.int l6), .val (.int m6), .val (.ref b1), .val (.int s3), .val (.int l3), .val (.int m3), .val (.long ((p2.toUInt64 >>> ((24 : Int32) &&& 0x3f).toInt64.toUInt64).toInt64)), .second, .val (.ref b28), .val (.int (1 : Int32)), .unset] [(.int (1 : Int32))])) _ _ _ _
                                    refine own_go (fun _ k => XS.istore X166.here hx rfl (hb hby at_281) rfl (l' := #[.val (.int p0), .val (.int p1), .val (.long p2), .second, .val (.int s6), .val (.int l6), .val (.int m6), .val (.ref b1), .val (.int s3), .val (.int l3), .val (.int m3), .val (.long ((p2.toUInt64 >>> ((24 : Int32) &&& 0x3f).toInt64.toUInt64).toInt64)), .second, .val (.ref b28), .val (.int (1 : Int32)), .val (.int (1 : Int32))]) rfl k) ?_
                                    show own_G _ _ _ (T166.setTop (mkF m 283 #[.val (.int p0), .val (.int p1), .val (.long p2), .second, .val (.int s6), .val (.int l6), .val (.int m6), .val (.ref b1), .val (.int s3), .val (.int l3), .val (.int m3), .val (.long ((p2.toUInt64 >>> ((24 : Int32) &&& 0x3f).toInt64.toUInt64).toInt64)), .second, .val (.ref b28), .val (.int (1 : Int32)), .val (.int (1 : Int32))] [])) _ _ _ _
                                    refine own_go (fun _ k => XS.iload X166.here hx rfl (hb hby at_283) rfl k) ?_
                                    show own_G _ _ _ (T166.setTop (mkF m 285 #[.val (.int p0), .val (.int p1), .val (.long p2), .second, .val (.int s6), .val (.int l6), .val (.int m6), .val (.ref b1), .val (.int s3), .val (.int l3), .val (.int m3), .val (.long ((p2.toUInt64 >>> ((24 : Int32) &&& 0x3f).toInt64.toUInt64).toInt64)), .second, .val (.ref b28), .val (.int (1 : Int32)), .val (.int (1 : Int32))] [(.int (1 : Int32))])) _ _ _ _
                                    have hc169 : ¬ ((1 : Int32) = (0 : Int32)) := (by decide)
                                    refine own_go (fun _ k => XS.ifNo X166.here hx rfl (hb hby at_285) rfl ((if0 _ _).trans (feq hc169).1) k) ?_
                                    show own_G _ _ _ (T166.setTop (mkF m 288 #[.val (.int p0), .val (.int p1), .val (.long p2), .second, .val (.int s6), .val (.int l6), .val (.int m6), .val (.ref b1), .val (.int s3), .val (.int l3), .val (.int m3), .val (.long ((p2.toUInt64 >>> ((24 : Int32) &&& 0x3f).toInt64.toUInt64).toInt64)), .second, .val (.ref b28), .val (.int (1 : Int32)), .val (.int (1 : Int32))] [])) _ _ _ _
                                    refine own_go (fun _ k => XS.iload X166.here hx rfl (hb hby at_288) rfl k) ?_
                                    show own_G _ _ _ (T166.setTop (mkF m 290 #[.val (.int p0), .val (.int p1), .val (.long p2), .second, .val (.int s6), .val (.int l6), .val (.int m6), .val (.ref b1), .val (.int s3), .val (.int l3), .val (.int m3), .val (.long ((p2.toUInt64 >>> ((24 : Int32) &&& 0x3f).toInt64.toUInt64).toInt64)), .second, .val (.ref b28), .val (.int (1 : Int32)), .val (.int (1 : Int32))] [(.int (1 : Int32))])) _ _ _ _
                                    have hc170 : ¬ ((1 : Int32) = (0 : Int32)) := (by decide)
                                    refine own_go (fun _ k => XS.ifNo X166.here hx rfl (hb hby at_290) rfl ((if0 _ _).trans (feq hc170).1) k) ?_
                                    show own_G _ _ _ (T166.setTop (mkF m 293 #[.val (.int p0), .val (.int p1), .val (.long p2), .second, .val (.int s6), .val (.int l6), .val (.int m6), .val (.ref b1), .val (.int s3), .val (.int l3), .val (.int m3), .val (.long ((p2.toUInt64 >>> ((24 : Int32) &&& 0x3f).toInt64.toUInt64).toInt64)), .second, .val (.ref b28), .val (.int (1 : Int32)), .val (.int (1 : Int32))] [])) _ _ _ _
                                    refine own_go (fun _ k => XS.iconst X166.here hx rfl (hb hby at_293) k) ?_
                                    show own_G _ _ _ (T166.setTop (mkF m 294 #[.val (.int p0), .val (.int p1), .val (.long p2), .second, .val (.int s6), .val (.int l6), .val (.int m6), .val (.ref b1), .val (.int s3), .val (.int l3), .val (.int m3), .val (.long ((p2.toUInt64 >>> ((24 : Int32) &&& 0x3f).toInt64.toUInt64).toInt64)), .second, .val (.ref b28), .val (.int (1 : Int32)), .val (.int (1 : Int32))] [(.int (1 : Int32))])) _ _ _ _
                                    refine own_go (fun _ k => XS.goto X166.here hx rfl (pc0 := 294) (pc' := 298) rfl (hb hby at_294) (by decide) (by decide) k) ?_
                                    show own_G _ _ _ (T166.setTop (mkF m 298 #[.val (.int p0), .val (.int p1), .val (.long p2), .second, .val (.int s6), .val (.int l6), .val (.int m6), .val (.ref b1), .val (.int s3), .val (.int l3), .val (.int m3), .val (.long ((p2.toUInt64 >>> ((24 : Int32) &&& 0x3f).toInt64.toUInt64).toInt64)), .second, .val (.ref b28), .val (.int (1 : Int32)), .val (.int (1 : Int32))] [(.int (1 : Int32))])) _ _ _ _
                                    exact own_endN X166 hx hlk (t := .boolean) Bd.returns (by simp) (hb hby at_298) (by decide) (by decide) (Q := (Q0 Z p0 p1 p2 zc h0 n0)) (by rw [eh166]; exact ⟨rfl, N166, K151_0⟩)
                                  · refine own_go (fun _ k => XS.ifYes X166.here hx rfl (pc0 := 265) (pc' := 272) rfl (hb hby at_265) rfl ((if0 _ _).trans (feq hc167).2) (by decide) (by decide) k) ?_
                                    show own_G _ _ _ (T166.setTop (mkF m 272 #[.val (.int p0), .val (.int p1), .val (.long p2), .second, .val (.int s6), .val (.int l6), .val (.int m6), .val (.ref b1), .val (.int s3), .val (.int l3), .val (.int m3), .val (.long ((p2.toUInt64 >>> ((24 : Int32) &&& 0x3f).toInt64.toUInt64).toInt64)), .second, .val (.ref b28), .val (.int (1 : Int32)), .unset] [(.int (if (own_f3 ((nar .char u6)).toInt8.toInt32 ((nar .char u7)).toInt8.toInt32 ((nar .char u8)).toInt8.toInt32) < (0 : Int32) then (1 : Int32) else (0 : Int32)))])) _ _ _ _
                                    refine own_go (fun _ k => XS.iconst X166.here hx rfl (hb hby at_272) k) ?_
                                    show own_G _ _ _ (T166.setTop (mkF m 273 #[.val (.int p0), .val (.int p1), .val (.long p2), .second, .val (.int s6), .val (.int l6), .val (.int m6), .val (.ref b1), .val (.int s3), .val (.int l3), .val (.int m3), .val (.long ((p2.toUInt64 >>> ((24 : Int32) &&& 0x3f).toInt64.toUInt64).toInt64)), .second, .val (.ref b28), .val (.int (1 : Int32)), .unset] [(.int (0 : Int32)), (.int (if (own_f3 ((nar .char u6)).toInt8.toInt32 ((nar .char u7)).toInt8.toInt32 ((nar .char u8)).toInt8.toInt32) < (0 : Int32) then (1 : Int32) else (0 : Int32)))])) _ _ _ _
                                    have hc171 : (if (own_f3 ((nar .char u6)).toInt8.toInt32 ((nar .char u7)).toInt8.toInt32 ((nar .char u8)).toInt8.toInt32) < (0 : Int32) then (1 : Int32) else (0 : Int32)) = (0 : Int32) := own_r3x' h_u6 h_u7 h_u8 H3 hc167
                                    refine own_go (fun _ k => XS.icmpNo X166.here hx rfl (hb hby at_273) rfl (teq hc171).2 k) ?_
                                    show own_G _ _ _ (T166.setTop (mkF m 276 #[.val (.int p0), .val (.int p1), .val (.long p2), .second, .val (.int s6), .val (.int l6), .val (.int m6), .val (.ref b1), .val (.int s3), .val (.int l3), .val (.int m3), .val (.long ((p2.toUInt64 >>> ((24 : Int32) &&& 0x3f).toInt64.toUInt64).toInt64)), .second, .val (.ref b28), .val (.int (1 : Int32)), .unset] [])) _ _ _ _
                                    refine own_go (fun _ k => XS.iconst X166.here hx rfl (hb hby at_276) k) ?_
                                    show own_G _ _ _ (T166.setTop (mkF m 277 #[.val (.int p0), .val (.int p1), .val (.long p2), .second, .val (.int s6), .val (.int l6), .val (.int m6), .val (.ref b1), .val (.int s3), .val (.int l3), .val (.int m3), .val (.long ((p2.toUInt64 >>> ((24 : Int32) &&& 0x3f).toInt64.toUInt64).toInt64)), .second, .val (.ref b28), .val (.int (1 : Int32)), .unset] [(.int (1 : Int32))])) _ _ _ _
                                    refine own_go (fun _ k => XS.goto X166.here hx rfl (pc0 := 277) (pc' := 281) rfl (hb hby at_277) (by decide) (by decide) k) ?_
                                    show own_G _ _ _ (T166.setTop (mkF m 281 #[.val (.int p0), .val (.int p1), .val (.long p2), .second, .val (.int s6), .val (.int l6), .val (.int m6), .val (.ref b1), .val (.int s3), .val (.int l3), .val (.int m3), .val (.long ((p2.toUInt64 >>> ((24 : Int32) &&& 0x3f).toInt64.toUInt64).toInt64)), .second, .val (.ref b28), .val (.int (1 : Int32)), .unset] [(.int (1 : Int32))])) _ _ _ _
                                    refine own_go (fun _ k => XS.istore X166.here hx rfl (hb hby at_281) rfl (l' := #[.val (.int p0), .val (.int p1), .val (.long p2), .second, .val (.int s6), .val (.int l6), .val (.int m6), .val (.ref b1), .val (.int s3), .val (.int l3), .val (.int m3), .val (.long ((p2.toUInt64 >>> ((24 : Int32) &&& 0x3f).toInt64.toUInt64).toInt64)), .second, .val (.ref b28), .val (.int (1 : Int32)), .val (.int (1 : Int32))]) rfl k) ?_
                                    show own_G _ _ _ (T166.setTop (mkF m 283 #[.val (.int p0), .val (.int p1), .val (.long p2), .second, .val (.int s6), .val (.int l6), .val (.int m6), .val (.ref b1), .val (.int s3), .val (.int l3), .val (.int m3), .val (.long ((p2.toUInt64 >>> ((24 : Int32) &&& 0x3f).toInt64.toUInt64).toInt64)), .second, .val (.ref b28), .val (.int (1 : Int32)), .val (.int (1 : Int32))] [])) _ _ _ _
                                    refine own_go (fun _ k => XS.iload X166.here hx rfl (hb hby at_283) rfl k) ?_
                                    show own_G _ _ _ (T166.setTop (mkF m 285 #[.val (.int p0), .val (.int p1), .val (.long p2), .second, .val (.int s6), .val (.int l6), .val (.int m6), .val (.ref b1), .val (.int s3), .val (.int l3), .val (.int m3), .val (.long ((p2.toUInt64 >>> ((24 : Int32) &&& 0x3f).toInt64.toUInt64).toInt64)), .second, .val (.ref b28), .val (.int (1 : Int32)), .val (.int (1 : Int32))] [(.int (1 : Int32))])) _ _ _ _
                                    have hc172 : ¬ ((1 : Int32) = (0 : Int32)) := (by decide)
                                    refine own_go (fun _ k => XS.ifNo X166.here hx rfl (hb hby at_285) rfl ((if0 _ _).trans (feq hc172).1) k) ?_
                                    show own_G _ _ _ (T166.setTop (mkF m 288 #[.val (.int p0), .val (.int p1), .val (.long p2), .second, .val (.int s6), .val (.int l6), .val (.int m6), .val (.ref b1), .val (.int s3), .val (.int l3), .val (.int m3), .val (.long ((p2.toUInt64 >>> ((24 : Int32) &&& 0x3f).toInt64.toUInt64).toInt64)), .second, .val (.ref b28), .val (.int (1 : Int32)), .val (.int (1 : Int32))] [])) _ _ _ _
                                    refine own_go (fun _ k => XS.iload X166.here hx rfl (hb hby at_288) rfl k) ?_
                                    show own_G _ _ _ (T166.setTop (mkF m 290 #[.val (.int p0), .val (.int p1), .val (.long p2), .second, .val (.int s6), .val (.int l6), .val (.int m6), .val (.ref b1), .val (.int s3), .val (.int l3), .val (.int m3), .val (.long ((p2.toUInt64 >>> ((24 : Int32) &&& 0x3f).toInt64.toUInt64).toInt64)), .second, .val (.ref b28), .val (.int (1 : Int32)), .val (.int (1 : Int32))] [(.int (1 : Int32))])) _ _ _ _
                                    have hc173 : ¬ ((1 : Int32) = (0 : Int32)) := (by decide)
                                    refine own_go (fun _ k => XS.ifNo X166.here hx rfl (hb hby at_290) rfl ((if0 _ _).trans (feq hc173).1) k) ?_
                                    show own_G _ _ _ (T166.setTop (mkF m 293 #[.val (.int p0), .val (.int p1), .val (.long p2), .second, .val (.int s6), .val (.int l6), .val (.int m6), .val (.ref b1), .val (.int s3), .val (.int l3), .val (.int m3), .val (.long ((p2.toUInt64 >>> ((24 : Int32) &&& 0x3f).toInt64.toUInt64).toInt64)), .second, .val (.ref b28), .val (.int (1 : Int32)), .val (.int (1 : Int32))] [])) _ _ _ _
                                    refine own_go (fun _ k => XS.iconst X166.here hx rfl (hb hby at_293) k) ?_
                                    show own_G _ _ _ (T166.setTop (mkF m 294 #[.val (.int p0), .val (.int p1), .val (.long p2), .second, .val (.int s6), .val (.int l6), .val (.int m6), .val (.ref b1), .val (.int s3), .val (.int l3), .val (.int m3), .val (.long ((p2.toUInt64 >>> ((24 : Int32) &&& 0x3f).toInt64.toUInt64).toInt64)), .second, .val (.ref b28), .val (.int (1 : Int32)), .val (.int (1 : Int32))] [(.int (1 : Int32))])) _ _ _ _
                                    refine own_go (fun _ k => XS.goto X166.here hx rfl (pc0 := 294) (pc' := 298) rfl (hb hby at_294) (by decide) (by decide) k) ?_
                                    show own_G _ _ _ (T166.setTop (mkF m 298 #[.val (.int p0), .val (.int p1), .val (.long p2), .second, .val (.int s6), .val (.int l6), .val (.int m6), .val (.ref b1), .val (.int s3), .val (.int l3), .val (.int m3), .val (.long ((p2.toUInt64 >>> ((24 : Int32) &&& 0x3f).toInt64.toUInt64).toInt64)), .second, .val (.ref b28), .val (.int (1 : Int32)), .val (.int (1 : Int32))] [(.int (1 : Int32))])) _ _ _ _
                                    exact own_endN X166 hx hlk (t := .boolean) Bd.returns (by simp) (hb hby at_298) (by decide) (by decide) (Q := (Q0 Z p0 p1 p2 zc h0 n0)) (by rw [eh166]; exact ⟨rfl, N166, K151_0⟩)
                                · refine own_go (fun _ k => XS.ifYes X89.here hx rfl (pc0 := 226) (pc' := 233) rfl (hb hby at_226) rfl ((if0 _ _).trans (feq hc90).2) (by decide) (by decide) k) ?_
                                  show own_G _ _ _ (T89.setTop (mkF m 233 #[.val (.int p0), .val (.int p1), .val (.long p2), .second, .val (.int s6), .val (.int l6), .val (.int m6), .val (.ref b1), .val (.int s3), .val (.int l3), .val (.int m3), .val (.long ((p2.toUInt64 >>> ((24 : Int32) &&& 0x3f).toInt64.toUInt64).toInt64)), .second, .val (.ref b28), .unset, .unset] [(.int (if (own_f6 ((nar .char u0)).toInt8.toInt32 ((nar .char u1)).toInt8.toInt32 ((nar .char u2)).toInt8.toInt32 ((nar .char u3)).toInt8.toInt32 ((nar .char u4)).toInt8.toInt32 ((nar .char u5)).toInt8.toInt32) < (0 : Int32) then (1 : Int32) else (0 : Int32)))])) _ _ _ _
                                  refine own_go (fun _ k => XS.iconst X89.here hx rfl (hb hby at_233) k) ?_
                                  show own_G _ _ _ (T89.setTop (mkF m 234 #[.val (.int p0), .val (.int p1), .val (.long p2), .second, .val (.int s6), .val (.int l6), .val (.int m6), .val (.ref b1), .val (.int s3), .val (.int l3), .val (.int m3), .val (.long ((p2.toUInt64 >>> ((24 : Int32) &&& 0x3f).toInt64.toUInt64).toInt64)), .second, .val (.ref b28), .unset, .unset] [(.int (0 : Int32)), (.int (if (own_f6 ((nar .char u0)).toInt8.toInt32 ((nar .char u1)).toInt8.toInt32 ((nar .char u2)).toInt8.toInt32 ((nar .char u3)).toInt8.toInt32 ((nar .char u4)).toInt8.toInt32 ((nar .char u5)).toInt8.toInt32) < (0 : Int32) then (1 : Int32) else (0 : Int32)))])) _ _ _ _
                                  have hc174 : (if (own_f6 ((nar .char u0)).toInt8.toInt32 ((nar .char u1)).toInt8.toInt32 ((nar .char u2)).toInt8.toInt32 ((nar .char u3)).toInt8.toInt32 ((nar .char u4)).toInt8.toInt32 ((nar .char u5)).toInt8.toInt32) < (0 : Int32) then (1 : Int32) else (0 : Int32)) = (0 : Int32) := own_r6x' h_u0 h_u1 h_u2 h_u3 h_u4 h_u5 H6 hc90
                                  refine own_go (fun _ k => XS.icmpNo X89.here hx rfl (hb hby at_234) rfl (teq hc174).2 k) ?_
                                  show own_G _ _ _ (T89.setTop (mkF m 237 #[.val (.int p0), .val (.int p1), .val (.long p2), .second, .val (.int s6), .val (.int l6), .val (.int m6), .val (.ref b1), .val (.int s3), .val (.int l3), .val (.int m3), .val (.long ((p2.toUInt64 >>> ((24 : Int32) &&& 0x3f).toInt64.toUInt64).toInt64)), .second, .val (.ref b28), .unset, .unset] [])) _ _ _ _
                                  refine own_go (fun _ k => XS.iconst X89.here hx rfl (hb hby at_237) k) ?_
                                  show own_G _ _ _ (T89.setTop (mkF m 238 #[.val (.int p0), .val (.int p1), .val (.long p2), .second, .val (.int s6), .val (.int l6), .val (.int m6), .val (.ref b1), .val (.int s3), .val (.int l3), .val (.int m3), .val (.long ((p2.toUInt64 >>> ((24 : Int32) &&& 0x3f).toInt64.toUInt64).toInt64)), .second, .val (.ref b28), .unset, .unset] [(.int (1 : Int32))])) _ _ _ _
                                  refine own_go (fun _ k => XS.goto X89.here hx rfl (pc0 := 238) (pc' := 242) rfl (hb hby at_238) (by decide) (by decide) k) ?_
                                  show own_G _ _ _ (T89.setTop (mkF m 242 #[.val (.int p0), .val (.int p1), .val (.long p2), .second, .val (.int s6), .val (.int l6), .val (.int m6), .val (.ref b1), .val (.int s3), .val (.int l3), .val (.int m3), .val (.long ((p2.toUInt64 >>> ((24 : Int32) &&& 0x3f).toInt64.toUInt64).toInt64)), .second, .val (.ref b28), .unset, .unset] [(.int (1 : Int32))])) _ _ _ _
                                  refine own_go (fun _ k => XS.istore X89.here hx rfl (hb hby at_242) rfl (l' := #[.val (.int p0), .val (.int p1), .val (.long p2), .second, .val (.int s6), .val (.int l6), .val (.int m6), .val (.ref b1), .val (.int s3), .val (.int l3), .val (.int m3), .val (.long ((p2.toUInt64 >>> ((24 : Int32) &&& 0x3f).toInt64.toUInt64).toInt64)), .second, .val (.ref b28), .val (.int (1 : Int32)), .unset]) rfl k) ?_
                                  show own_G _ _ _ (T89.setTop (mkF m 244 #[.val (.int p0), .val (.int p1), .val (.long p2), .second, .val (.int s6), .val (.int l6), .val (.int m6), .val (.ref b1), .val (.int s3), .val (.int l3), .val (.int m3), .val (.long ((p2.toUInt64 >>> ((24 : Int32) &&& 0x3f).toInt64.toUInt64).toInt64)), .second, .val (.ref b28), .val (.int (1 : Int32)), .unset] [])) _ _ _ _
                                  obtain ⟨T175, h175, X175, e175, E175, A175, D175, -, st175⟩ := newO X89 hx hZ hown (hw _ (List.mem_of_getElem? (i := 8) rfl)) (hw _ (List.mem_of_getElem? (i := 9) rfl)) (hw _ (List.mem_of_getElem? (i := 10) rfl)) eh89 (g := (mkF m 244 #[.val (.int p0), .val (.int p1), .val (.long p2), .second, .val (.int s6), .val (.int l6), .val (.int m6), .val (.ref b1), .val (.int s3), .val (.int l3), .val (.int m3), .val (.long ((p2.toUInt64 >>> ((24 : Int32) &&& 0x3f).toInt64.toUInt64).toInt64)), .second, .val (.ref b28), .val (.int (1 : Int32)), .unset] [])) rfl (hb hby at_244) (by decide) (by decide)
                                  obtain ⟨b175, g175⟩ : ∃ z, z = T80.heap.size := ⟨_, rfl⟩
                                  rw [← g175] at A175 D175 st175
                                  have ne176 : b1 ≠ b175 := Nat.ne_of_lt (Nat.lt_of_lt_of_le f82.lt (Nat.le_of_eq g175.symm))
                                  have ne177 : b28 ≠ b175 := Nat.ne_of_lt (Nat.lt_of_lt_of_le f83.lt (Nat.le_of_eq g175.symm))
                                  have ne178 : b48 ≠ b175 := Nat.ne_of_lt (Nat.lt_of_lt_of_le r80_0.lt (Nat.le_of_eq g175.symm))
                                  have ne179 : b56 ≠ b175 := Nat.ne_of_lt (Nat.lt_of_lt_of_le f85.lt (Nat.le_of_eq g175.symm))
                                  have ne180 : t68 ≠ b175 := Nat.ne_of_lt (Nat.lt_of_lt_of_le f88.lt (Nat.le_of_eq g175.symm))
                                  have gg175 : n0 ≤ b175 := Nat.le_trans Zs80 (Nat.le_of_eq g175.symm)
                                  have sz175_0 : h0.size ≤ b175 := Nat.le_trans K80_0.1 (Nat.le_of_eq g175.symm)
                                  have Zs175 : n0 ≤ h175.size := Nat.le_trans Zs80 E175.1
                                  have K175_0 : Keep h0 h175 [] := K80_0.ext E175
                                  have f181 : Old Z n0 h175 := f81.ext E175
                                  have f182 : Arv Z h175 b1 k1 .char (6 : Int32) [(.int (nar .char u0)), (.int (nar .char u1)), (.int (nar .char u2)), (.int (nar .char u3)), (.int (nar .char u4)), (.int (nar .char u5))] (.int (0 : Int32)) := f82.ext E175
                                  have f183 : Arv Z h175 b28 k28 .char (3 : Int32) [(.int (nar .char u6)), (.int (nar .char u7)), (.int (nar .char u8))] (.int (0 : Int32)) := f83.ext E175
                                  have f184 : Exa Z h175 b48 "com/example/hence/hence/reasoning/Decimal" := r80_0.ext E175
                                  have f185 : Exa Z h175 b56 "java/lang/String" := f85.ext E175
                                  have f186 : Fld Z h175 b56 "java/lang/String" "coder" "B" (.int 0) := f86.ext E175
                                  have f187 : Fld Z h175 b56 "java/lang/String" "value" "[B" (.ref t68) := f87.ext E175
                                  have f188 : Arv Z h175 t68 kb68 .byte (6 : Int32) [(.int ((nar .char u0)).toInt8.toInt32), (.int ((nar .char u1)).toInt8.toInt32), (.int ((nar .char u2)).toInt8.toInt32), (.int ((nar .char u3)).toInt8.toInt32), (.int ((nar .char u4)).toInt8.toInt32), (.int ((nar .char u5)).toInt8.toInt32)] (.int (0 : Int32)) := f88.ext E175
                                  have f189 : Fld Z h175 b48 "com/example/hence/hence/reasoning/Decimal" "canonical" "Ljava/lang/String;" (.ref b56) := r80_1.ext E175
                                  have f190 : Exa Z h175 b175 "com/example/hence/hence/reasoning/Decimal" := A175
                                  have f191 : Fld Z h175 b175 "com/example/hence/hence/reasoning/Decimal" "canonical" "Ljava/lang/String;" .null := D175 (Or.inr (hw _ (List.mem_of_getElem? (i := 50) rfl))) (ty := (.object "java/lang/String")) (by decide)
                                  refine own_go (fun _ k => st175 _ k) ?_
                                  show own_G _ _ _ (T175.setTop (mkF m 247 #[.val (.int p0), .val (.int p1), .val (.long p2), .second, .val (.int s6), .val (.int l6), .val (.int m6), .val (.ref b1), .val (.int s3), .val (.int l3), .val (.int m3), .val (.long ((p2.toUInt64 >>> ((24 : Int32) &&& 0x3f).toInt64.toUInt64).toInt64)), .second, .val (.ref b28), .val (.int (1 : Int32)), .unset] [(.ref b175)])) _ _ _ _
                                  refine own_go (fun _ k => XS.dup X175.here hx rfl (hb hby at_247) rfl rfl k) ?_
                                  show own_G _ _ _ (T175.setTop (mkF m 248 #[.val (.int p0), .val (.int p1), .val (.long p2), .second, .val (.int s6), .val (.int l6), .val (.int m6), .val (.ref b1), .val (.int s3), .val (.int l3), .val (.int m3), .val (.long ((p2.toUInt64 >>> ((24 : Int32) &&& 0x3f).toInt64.toUInt64).toInt64)), .second, .val (.ref b28), .val (.int (1 : Int32)), .unset] [(.ref b175), (.ref b175)])) _ _ _ _
                                  obtain ⟨T192, h192, X192, e192, E192, A192, D192, -, st192⟩ := newO X175 hx hZ hown (hw _ (List.mem_of_getElem? (i := 11) rfl)) (hw _ (List.mem_of_getElem? (i := 12) rfl)) (hw _ (List.mem_of_getElem? (i := 13) rfl)) e175 (g := (mkF m 248 #[.val (.int p0), .val (.int p1), .val (.long p2), .second, .val (.int s6), .val (.int l6), .val (.int m6), .val (.ref b1), .val (.int s3), .val (.int l3), .val (.int m3), .val (.long ((p2.toUInt64 >>> ((24 : Int32) &&& 0x3f).toInt64.toUInt64).toInt64)), .second, .val (.ref b28), .val (.int (1 : Int32)), .unset] [(.ref b175), (.ref b175)])) rfl (hb hby at_248) (by decide) (by decide)
                                  obtain ⟨b192, g192⟩ : ∃ z, z = h175.size := ⟨_, rfl⟩
                                  rw [← g192] at A192 D192 st192
                                  have ne193 : b1 ≠ b192 := Nat.ne_of_lt (Nat.lt_of_lt_of_le f182.lt (Nat.le_of_eq g192.symm))
                                  have ne194 : b28 ≠ b192 := Nat.ne_of_lt (Nat.lt_of_lt_of_le f183.lt (Nat.le_of_eq g192.symm))
                                  have ne195 : b48 ≠ b192 := Nat.ne_of_lt (Nat.lt_of_lt_of_le f184.lt (Nat.le_of_eq g192.symm))
                                  have ne196 : b56 ≠ b192 := Nat.ne_of_lt (Nat.lt_of_lt_of_le f185.lt (Nat.le_of_eq g192.symm))
                                  have ne197 : t68 ≠ b192 := Nat.ne_of_lt (Nat.lt_of_lt_of_le f188.lt (Nat.le_of_eq g192.symm))
                                  have ne198 : b175 ≠ b192 := Nat.ne_of_lt (Nat.lt_of_lt_of_le f190.lt (Nat.le_of_eq g192.symm))
                                  have gg192 : n0 ≤ b192 := Nat.le_trans Zs175 (Nat.le_of_eq g192.symm)
                                  have sz192_0 : h0.size ≤ b192 := Nat.le_trans K175_0.1 (Nat.le_of_eq g192.symm)
                                  have Zs192 : n0 ≤ h192.size := Nat.le_trans Zs175 E192.1
                                  have K192_0 : Keep h0 h192 [] := K175_0.ext E192
                                  have f199 : Old Z n0 h192 := f181.ext E192
                                  have f200 : Arv Z h192 b1 k1 .char (6 : Int32) [(.int (nar .char u0)), (.int (nar .char u1)), (.int (nar .char u2)), (.int (nar .char u3)), (.int (nar .char u4)), (.int (nar .char u5))] (.int (0 : Int32)) := f182.ext E192
                                  have f201 : Arv Z h192 b28 k28 .char (3 : Int32) [(.int (nar .char u6)), (.int (nar .char u7)), (.int (nar .char u8))] (.int (0 : Int32)) := f183.ext E192
                                  have f202 : Exa Z h192 b48 "com/example/hence/hence/reasoning/Decimal" := f184.ext E192
                                  have f203 : Exa Z h192 b56 "java/lang/String" := f185.ext E192
                                  have f204 : Fld Z h192 b56 "java/lang/String" "coder" "B" (.int 0) := f186.ext E192
                                  have f205 : Fld Z h192 b56 "java/lang/String" "value" "[B" (.ref t68) := f187.ext E192
                                  have f206 : Arv Z h192 t68 kb68 .byte (6 : Int32) [(.int ((nar .char u0)).toInt8.toInt32), (.int ((nar .char u1)).toInt8.toInt32), (.int ((nar .char u2)).toInt8.toInt32), (.int ((nar .char u3)).toInt8.toInt32), (.int ((nar .char u4)).toInt8.toInt32), (.int ((nar .char u5)).toInt8.toInt32)] (.int (0 : Int32)) := f188.ext E192
                                  have f207 : Fld Z h192 b48 "com/example/hence/hence/reasoning/Decimal" "canonical" "Ljava/lang/String;" (.ref b56) := f189.ext E192
                                  have f208 : Exa Z h192 b175 "com/example/hence/hence/reasoning/Decimal" := f190.ext E192
                                  have f209 : Fld Z h192 b175 "com/example/hence/hence/reasoning/Decimal" "canonical" "Ljava/lang/String;" .null := f191.ext E192
                                  have f210 : Exa Z h192 b192 "java/lang/String" := A192
                                  have f211 : Fld Z h192 b192 "java/lang/String" "coder" "B" (.int (0 : Int32)) := D192 (Or.inr (hw _ (List.mem_of_getElem? (i := 37) rfl))) (ty := .byte) (by decide)
                                  have f212 : Fld Z h192 b192 "java/lang/String" "value" "[B" .null := D192 (Or.inr (hw _ (List.mem_of_getElem? (i := 39) rfl))) (ty := (.array .byte)) (by decide)
                                  refine own_go (fun _ k => st192 _ k) ?_
                                  show own_G _ _ _ (T192.setTop (mkF m 251 #[.val (.int p0), .val (.int p1), .val (.long p2), .second, .val (.int s6), .val (.int l6), .val (.int m6), .val (.ref b1), .val (.int s3), .val (.int l3), .val (.int m3), .val (.long ((p2.toUInt64 >>> ((24 : Int32) &&& 0x3f).toInt64.toUInt64).toInt64)), .second, .val (.ref b28), .val (.int (1 : Int32)), .unset] [(.ref b192), (.ref b175), (.ref b175)])) _ _ _ _
                                  refine own_go (fun _ k => XS.dup X192.here hx rfl (hb hby at_251) rfl rfl k) ?_
                                  show own_G _ _ _ (T192.setTop (mkF m 252 #[.val (.int p0), .val (.int p1), .val (.long p2), .second, .val (.int s6), .val (.int l6), .val (.int m6), .val (.ref b1), .val (.int s3), .val (.int l3), .val (.int m3), .val (.long ((p2.toUInt64 >>> ((24 : Int32) &&& 0x3f).toInt64.toUInt64).toInt64)), .second, .val (.ref b28), .val (.int (1 : Int32)), .unset] [(.ref b192), (.ref b192), (.ref b175), (.ref b175)])) _ _ _ _
                                  refine own_go (fun _ k => XS.aload X192.here hx rfl (hb hby at_252) rfl rfl k) ?_
                                  show own_G _ _ _ (T192.setTop (mkF m 254 #[.val (.int p0), .val (.int p1), .val (.long p2), .second, .val (.int s6), .val (.int l6), .val (.int m6), .val (.ref b1), .val (.int s3), .val (.int l3), .val (.int m3), .val (.long ((p2.toUInt64 >>> ((24 : Int32) &&& 0x3f).toInt64.toUInt64).toInt64)), .second, .val (.ref b28), .val (.int (1 : Int32)), .unset] [(.ref b28), (.ref b192), (.ref b192), (.ref b175), (.ref b175)])) _ _ _ _
                                  have hp213 : ∀ c ∈ ([(nar .char u6), (nar .char u7), (nar .char u8)] : List Int32), ¬ c < 0 ∧ ¬ (255 : Int32) < c := (fun c hc => by
      simp only [List.mem_cons, List.not_mem_nil, or_false] at hc
      rcases hc with rfl | rfl | rfl <;> first | exact own_hpx h_u6 | exact own_hpx h_u7 | exact own_hpx h_u8)
                                  have hws213 : ∀ d ∈ StrChars.Road.words, d.before a0 Z = true := fun d hd => hw d (own_words d hd)
                                  obtain ⟨_, _, ⟨T213, L213, k213, n213⟩, -, X213, ⟨Lc213, hQ213, l213, y213, z213⟩, st213⟩ := X192.specialBack hx (y := (⟨"java/lang/String", "<init>", "([C)V"⟩ : MethodName)) rfl hown (mvT hZ (hw _ (List.mem_of_getElem? (i := 14) rfl))) (mvT hZ (hw _ (List.mem_of_getElem? (i := 15) rfl))) (mvT hZ (hw _ (List.mem_of_getElem? (i := 16) rfl))) (by decide) (StrChars.Road.backV (W := 3) hZ hws213 (kI := 4) (hw _ (List.mem_of_getElem? (i := 12) rfl)) (cs := ([(nar .char u6), (nar .char u7), (nar .char u8)] : List Int32)) (bs := ([(nar .char u6), (nar .char u7), (nar .char u8)] : List Int32).map (fun c => c.toInt8.toInt32)) (n := 3) gg192 Zs192 f210 f212 f211 f201 (P_ZS_java_lang_String_COMPACT_STRINGS.ext f199.2) hcs rfl rfl (by decide) (by decide) hp213 rfl (by decide) (by decide)) (g := (mkF m 254 #[.val (.int p0), .val (.int p1), .val (.long p2), .second, .val (.int s6), .val (.int l6), .val (.int m6), .val (.ref b1), .val (.int s3), .val (.int l3), .val (.int m3), .val (.long ((p2.toUInt64 >>> ((24 : Int32) &&& 0x3f).toInt64.toUInt64).toInt64)), .second, .val (.ref b28), .val (.int (1 : Int32)), .unset] [(.ref b28), (.ref b192), (.ref b192), (.ref b175), (.ref b175)])) rfl (by rw [hml]; rfl) (Steps.refl _) (a := b192) (argsL := [(.ref b28)]) (rest := [(.ref b192), (.ref b175), (.ref b175)]) (lenOf pd_9 rfl) rfl (by show 2 * 0 + _ ≤ _; exact Nat.le_of_eq rfl) (hb hby at_254) (fun _ _ => ⟨rfl, e192, (by decide : 7 + 1 ≤ _), (by decide : 25 + 3 ≤ _)⟩)
                                  dsimp only [Pt.U, Pt.locs, Pt.cells, Pt.slots] at X213 l213 y213 z213 st213 hQ213
                                  rw [l213] at X213
                                  subst y213 z213
                                  obtain ⟨rfl, Nq213, Kq213, xs213, cd213, t213, kb213, nt213, ht213, nx213, vl213, vb213⟩ := hQ213
                                  have N213 := Fr.app N89 Nq213
                                  have ne214 : b1 ≠ t213 := Nat.ne_of_lt (Nat.lt_of_lt_of_le f200.lt ht213)
                                  have ne215 : b28 ≠ t213 := Nat.ne_of_lt (Nat.lt_of_lt_of_le f201.lt ht213)
                                  have ne216 : b48 ≠ t213 := Nat.ne_of_lt (Nat.lt_of_lt_of_le f202.lt ht213)
                                  have ne217 : b56 ≠ t213 := Nat.ne_of_lt (Nat.lt_of_lt_of_le f203.lt ht213)
                                  have ne218 : t68 ≠ t213 := Nat.ne_of_lt (Nat.lt_of_lt_of_le f206.lt ht213)
                                  have ne219 : b175 ≠ t213 := Nat.ne_of_lt (Nat.lt_of_lt_of_le f208.lt ht213)
                                  have ne220 : b192 ≠ t213 := Nat.ne_of_lt (Nat.lt_of_lt_of_le f210.lt ht213)
                                  have sz_t213_0 : h0.size ≤ t213 := Nat.le_trans K192_0.1 ht213
                                  have f221 : Old Z n0 T213.heap := f199.keep Kq213 (allS gg192 all0)
                                  have f222 : Arv Z T213.heap b1 k1 .char (6 : Int32) [(.int (nar .char u0)), (.int (nar .char u1)), (.int (nar .char u2)), (.int (nar .char u3)), (.int (nar .char u4)), (.int (nar .char u5))] (.int (0 : Int32)) := f200.keep Kq213 (ninS ne193 nin0)
                                  have f223 : Arv Z T213.heap b28 k28 .char (3 : Int32) [(.int (nar .char u6)), (.int (nar .char u7)), (.int (nar .char u8))] (.int (0 : Int32)) := f201.keep Kq213 (ninS ne194 nin0)
                                  have f224 : Exa Z T213.heap b48 "com/example/hence/hence/reasoning/Decimal" := f202.keep Kq213
                                  have f225 : Exa Z T213.heap b56 "java/lang/String" := f203.keep Kq213
                                  have f226 : Fld Z T213.heap b56 "java/lang/String" "coder" "B" (.int 0) := f204.keep Kq213 (ninS ne196 nin0)
                                  have f227 : Fld Z T213.heap b56 "java/lang/String" "value" "[B" (.ref t68) := f205.keep Kq213 (ninS ne196 nin0)
                                  have f228 : Arv Z T213.heap t68 kb68 .byte (6 : Int32) [(.int ((nar .char u0)).toInt8.toInt32), (.int ((nar .char u1)).toInt8.toInt32), (.int ((nar .char u2)).toInt8.toInt32), (.int ((nar .char u3)).toInt8.toInt32), (.int ((nar .char u4)).toInt8.toInt32), (.int ((nar .char u5)).toInt8.toInt32)] (.int (0 : Int32)) := f206.keep Kq213 (ninS ne197 nin0)
                                  have f229 : Fld Z T213.heap b48 "com/example/hence/hence/reasoning/Decimal" "canonical" "Ljava/lang/String;" (.ref b56) := f207.keep Kq213 (ninS ne195 nin0)
                                  have f230 : Exa Z T213.heap b175 "com/example/hence/hence/reasoning/Decimal" := f208.keep Kq213
                                  have f231 : Fld Z T213.heap b175 "com/example/hence/hence/reasoning/Decimal" "canonical" "Ljava/lang/String;" .null := f209.keep Kq213 (ninS ne198 nin0)
                                  have f232 : Exa Z T213.heap b192 "java/lang/String" := f210.keep Kq213
                                  have Zs213 : n0 ≤ T213.heap.size := Nat.le_trans Zs192 Kq213.1
                                  have K213_0 : Keep h0 T213.heap [] := K192_0.trans Kq213 (allS (Or.inr sz192_0) all0)
                                  have f233 : Arv Z T213.heap t213 kb213 .byte (3 : Int32) [(.int ((nar .char u6)).toInt8.toInt32), (.int ((nar .char u7)).toInt8.toInt32), (.int ((nar .char u8)).toInt8.toInt32)] (.int (0 : Int32)) := vb213
                                  refine own_tr st213 ?_
                                  show own_G _ _ _ (T213.setTop (mkF m 257 #[.val (.int p0), .val (.int p1), .val (.long p2), .second, .val (.int s6), .val (.int l6), .val (.int m6), .val (.ref b1), .val (.int s3), .val (.int l3), .val (.int m3), .val (.long ((p2.toUInt64 >>> ((24 : Int32) &&& 0x3f).toInt64.toUInt64).toInt64)), .second, .val (.ref b28), .val (.int (1 : Int32)), .unset] [(.ref b192), (.ref b175), (.ref b175)])) _ _ _ _
                                  obtain ⟨_, _, ⟨T234, L234, k234, n234⟩, -, X234, ⟨Lc234, hQ234, l234, y234, z234⟩, st234⟩ := X213.specialBack hx (y := (⟨"com/example/hence/hence/reasoning/Decimal", "<init>", "(Ljava/lang/String;)V"⟩ : MethodName)) rfl hown (mvT hZ (hw _ (List.mem_of_getElem? (i := 40) rfl))) (mvT hZ (hw _ (List.mem_of_getElem? (i := 41) rfl))) (mvT hZ (hw _ (List.mem_of_getElem? (i := 42) rfl))) (by decide) (backOf (W := 1) (rm8 l Z a0 hw [] b175 b192  T213.heap n0 Zs213 f230 f231 gg175) hZ (hw _ (List.mem_of_getElem? (i := 42) rfl)) (hw _ (List.mem_of_getElem? (i := 10) rfl)) (by decide) (by decide)) (g := (mkF m 257 #[.val (.int p0), .val (.int p1), .val (.long p2), .second, .val (.int s6), .val (.int l6), .val (.int m6), .val (.ref b1), .val (.int s3), .val (.int l3), .val (.int m3), .val (.long ((p2.toUInt64 >>> ((24 : Int32) &&& 0x3f).toInt64.toUInt64).toInt64)), .second, .val (.ref b28), .val (.int (1 : Int32)), .unset] [(.ref b192), (.ref b175), (.ref b175)])) rfl (by rw [hml]; rfl) (Steps.refl _) (a := b175) (argsL := [(.ref b192)]) (rest := [(.ref b175)]) (lenOf pd_10 rfl) rfl (by show 2 * 0 + _ ≤ _; exact Nat.le_of_eq rfl) (hb hby at_257) (fun _ _ => ⟨rfl, rfl, (by decide : 8 + 0 ≤ _), (by decide : 28 + 0 ≤ _)⟩)
                                  dsimp only [Pt.U, Pt.locs, Pt.cells, Pt.slots] at X234 l234 y234 z234 st234 hQ234
                                  rw [l234] at X234
                                  subst y234 z234
                                  obtain ⟨rfl, Nq234, Kq234, r234_0, r234_1⟩ := hQ234
                                  have N234 := Fr.app N213 Nq234
                                  have f235 : Old Z n0 T234.heap := f221.keep Kq234 (allS gg175 all0)
                                  have f236 : Arv Z T234.heap b1 k1 .char (6 : Int32) [(.int (nar .char u0)), (.int (nar .char u1)), (.int (nar .char u2)), (.int (nar .char u3)), (.int (nar .char u4)), (.int (nar .char u5))] (.int (0 : Int32)) := f222.keep Kq234 (ninS ne176 nin0)
                                  have f237 : Arv Z T234.heap b28 k28 .char (3 : Int32) [(.int (nar .char u6)), (.int (nar .char u7)), (.int (nar .char u8))] (.int (0 : Int32)) := f223.keep Kq234 (ninS ne177 nin0)
                                  have f238 : Exa Z T234.heap b48 "com/example/hence/hence/reasoning/Decimal" := f224.keep Kq234
                                  have f239 : Exa Z T234.heap b56 "java/lang/String" := f225.keep Kq234
                                  have f240 : Fld Z T234.heap b56 "java/lang/String" "coder" "B" (.int 0) := f226.keep Kq234 (ninS ne179 nin0)
                                  have f241 : Fld Z T234.heap b56 "java/lang/String" "value" "[B" (.ref t68) := f227.keep Kq234 (ninS ne179 nin0)
                                  have f242 : Arv Z T234.heap t68 kb68 .byte (6 : Int32) [(.int ((nar .char u0)).toInt8.toInt32), (.int ((nar .char u1)).toInt8.toInt32), (.int ((nar .char u2)).toInt8.toInt32), (.int ((nar .char u3)).toInt8.toInt32), (.int ((nar .char u4)).toInt8.toInt32), (.int ((nar .char u5)).toInt8.toInt32)] (.int (0 : Int32)) := f228.keep Kq234 (ninS ne180 nin0)
                                  have f243 : Fld Z T234.heap b48 "com/example/hence/hence/reasoning/Decimal" "canonical" "Ljava/lang/String;" (.ref b56) := f229.keep Kq234 (ninS ne178 nin0)
                                  have f244 : Exa Z T234.heap b175 "com/example/hence/hence/reasoning/Decimal" := f230.keep Kq234
                                  have f245 : Exa Z T234.heap b192 "java/lang/String" := xs213.keep Kq234
                                  have f246 : Fld Z T234.heap b192 "java/lang/String" "coder" "B" (.int 0) := cd213.keep Kq234 (ninS (Ne.symm ne198) nin0)
                                  have f247 : Fld Z T234.heap b192 "java/lang/String" "value" "[B" (.ref t213) := vl213.keep Kq234 (ninS (Ne.symm ne198) nin0)
                                  have f248 : Arv Z T234.heap t213 kb213 .byte (3 : Int32) [(.int ((nar .char u6)).toInt8.toInt32), (.int ((nar .char u7)).toInt8.toInt32), (.int ((nar .char u8)).toInt8.toInt32)] (.int (0 : Int32)) := f233.keep Kq234 (ninS (Ne.symm ne219) nin0)
                                  have Zs234 : n0 ≤ T234.heap.size := Nat.le_trans Zs213 Kq234.1
                                  have K234_0 : Keep h0 T234.heap [] := K213_0.trans Kq234 (allS (Or.inr sz175_0) all0)
                                  refine own_tr st234 ?_
                                  show own_G _ _ _ (T234.setTop (mkF m 260 #[.val (.int p0), .val (.int p1), .val (.long p2), .second, .val (.int s6), .val (.int l6), .val (.int m6), .val (.ref b1), .val (.int s3), .val (.int l3), .val (.int m3), .val (.long ((p2.toUInt64 >>> ((24 : Int32) &&& 0x3f).toInt64.toUInt64).toInt64)), .second, .val (.ref b28), .val (.int (1 : Int32)), .unset] [(.ref b175)])) _ _ _ _
                                  obtain ⟨cq249, kq249, q249a, q249b, q249c⟩ := isOf hZ rfl r234_0
                                  obtain ⟨_, _, ⟨T249, L249, k249, n249⟩, -, X249, ⟨Lc249, hQ249, l249, y249, z249⟩, st249⟩ := X234.virtualBack hx (y := (⟨"com/example/hence/hence/reasoning/Decimal", "isInteger", "()Z"⟩ : MethodName)) (z := (⟨"com/example/hence/hence/reasoning/Decimal", "isInteger", "()Z"⟩ : MethodName)) hown (mvT hZ (hw _ (List.mem_of_getElem? (i := 51) rfl))) (mvT hZ (hw _ (List.mem_of_getElem? (i := 52) rfl))) (notFace_of_selects (args := #[]) (mvT hZ (hw _ (List.mem_of_getElem? (i := 54) rfl)))) (mvT hZ (hw _ (List.mem_of_getElem? (i := 54) rfl))) (mvT hZ (hw _ (List.mem_of_getElem? (i := 53) rfl))) (by decide) (backOf (W := 0) (rm10b l Z a0 hw [] b175 zc b192 t213 kb213 ((nar .char u6)).toInt8.toInt32 ((nar .char u7)).toInt8.toInt32 ((nar .char u8)).toInt8.toInt32 T234.heap n0 Zs234 f235 P_ZS_java_lang_String_COMPACT_STRINGS (by assumption) r234_1 f245 f246 f247 f248) hZ (hw _ (List.mem_of_getElem? (i := 55) rfl)) (hw _ (List.mem_of_getElem? (i := 10) rfl)) (by decide) (by decide)) q249a q249c (g := (mkF m 260 #[.val (.int p0), .val (.int p1), .val (.long p2), .second, .val (.int s6), .val (.int l6), .val (.int m6), .val (.ref b1), .val (.int s3), .val (.int l3), .val (.int m3), .val (.long ((p2.toUInt64 >>> ((24 : Int32) &&& 0x3f).toInt64.toUInt64).toInt64)), .second, .val (.ref b28), .val (.int (1 : Int32)), .unset] [(.ref b175)])) rfl (by rw [hml]; rfl) (Steps.refl _) (argsL := []) (rest := []) (lenOf pd_5 rfl) rfl (by show 2 * 0 + _ ≤ _; exact Nat.le_of_eq rfl) (hb hby at_260) (fun _ _ => ⟨rfl, rfl, (by decide : 8 + 0 ≤ _), (by decide : 28 + 0 ≤ _)⟩)
                                  dsimp only [Pt.U, Pt.locs, Pt.cells, Pt.slots] at X249 l249 y249 z249 st249 hQ249
                                  rw [l249] at X249
                                  subst y249 z249
                                  obtain ⟨rfl, Nq249, eh249⟩ := hQ249
                                  have N249 := Fr.app N234 Nq249
                                  refine own_tr st249 ?_
                                  show own_G _ _ _ (T249.setTop (mkF m 263 #[.val (.int p0), .val (.int p1), .val (.long p2), .second, .val (.int s6), .val (.int l6), .val (.int m6), .val (.ref b1), .val (.int s3), .val (.int l3), .val (.int m3), .val (.long ((p2.toUInt64 >>> ((24 : Int32) &&& 0x3f).toInt64.toUInt64).toInt64)), .second, .val (.ref b28), .val (.int (1 : Int32)), .unset] [(.int (if (own_f3 ((nar .char u6)).toInt8.toInt32 ((nar .char u7)).toInt8.toInt32 ((nar .char u8)).toInt8.toInt32) < (0 : Int32) then (1 : Int32) else (0 : Int32)))])) _ _ _ _
                                  refine own_go (fun _ k => XS.iload X249.here hx rfl (hb hby at_263) rfl k) ?_
                                  show own_G _ _ _ (T249.setTop (mkF m 265 #[.val (.int p0), .val (.int p1), .val (.long p2), .second, .val (.int s6), .val (.int l6), .val (.int m6), .val (.ref b1), .val (.int s3), .val (.int l3), .val (.int m3), .val (.long ((p2.toUInt64 >>> ((24 : Int32) &&& 0x3f).toInt64.toUInt64).toInt64)), .second, .val (.ref b28), .val (.int (1 : Int32)), .unset] [(.int m3), (.int (if (own_f3 ((nar .char u6)).toInt8.toInt32 ((nar .char u7)).toInt8.toInt32 ((nar .char u8)).toInt8.toInt32) < (0 : Int32) then (1 : Int32) else (0 : Int32)))])) _ _ _ _
                                  by_cases hc250 : m3 = (0 : Int32)
                                  · refine own_go (fun _ k => XS.ifNo X249.here hx rfl (hb hby at_265) rfl ((if0 _ _).trans (teq hc250).2) k) ?_
                                    show own_G _ _ _ (T249.setTop (mkF m 268 #[.val (.int p0), .val (.int p1), .val (.long p2), .second, .val (.int s6), .val (.int l6), .val (.int m6), .val (.ref b1), .val (.int s3), .val (.int l3), .val (.int m3), .val (.long ((p2.toUInt64 >>> ((24 : Int32) &&& 0x3f).toInt64.toUInt64).toInt64)), .second, .val (.ref b28), .val (.int (1 : Int32)), .unset] [(.int (if (own_f3 ((nar .char u6)).toInt8.toInt32 ((nar .char u7)).toInt8.toInt32 ((nar .char u8)).toInt8.toInt32) < (0 : Int32) then (1 : Int32) else (0 : Int32)))])) _ _ _ _
                                    refine own_go (fun _ k => XS.iconst X249.here hx rfl (hb hby at_268) k) ?_
                                    show own_G _ _ _ (T249.setTop (mkF m 269 #[.val (.int p0), .val (.int p1), .val (.long p2), .second, .val (.int s6), .val (.int l6), .val (.int m6), .val (.ref b1), .val (.int s3), .val (.int l3), .val (.int m3), .val (.long ((p2.toUInt64 >>> ((24 : Int32) &&& 0x3f).toInt64.toUInt64).toInt64)), .second, .val (.ref b28), .val (.int (1 : Int32)), .unset] [(.int (1 : Int32)), (.int (if (own_f3 ((nar .char u6)).toInt8.toInt32 ((nar .char u7)).toInt8.toInt32 ((nar .char u8)).toInt8.toInt32) < (0 : Int32) then (1 : Int32) else (0 : Int32)))])) _ _ _ _
                                    refine own_go (fun _ k => XS.goto X249.here hx rfl (pc0 := 269) (pc' := 273) rfl (hb hby at_269) (by decide) (by decide) k) ?_
                                    show own_G _ _ _ (T249.setTop (mkF m 273 #[.val (.int p0), .val (.int p1), .val (.long p2), .second, .val (.int s6), .val (.int l6), .val (.int m6), .val (.ref b1), .val (.int s3), .val (.int l3), .val (.int m3), .val (.long ((p2.toUInt64 >>> ((24 : Int32) &&& 0x3f).toInt64.toUInt64).toInt64)), .second, .val (.ref b28), .val (.int (1 : Int32)), .unset] [(.int (1 : Int32)), (.int (if (own_f3 ((nar .char u6)).toInt8.toInt32 ((nar .char u7)).toInt8.toInt32 ((nar .char u8)).toInt8.toInt32) < (0 : Int32) then (1 : Int32) else (0 : Int32)))])) _ _ _ _
                                    have hc251 : (if (own_f3 ((nar .char u6)).toInt8.toInt32 ((nar .char u7)).toInt8.toInt32 ((nar .char u8)).toInt8.toInt32) < (0 : Int32) then (1 : Int32) else (0 : Int32)) = (1 : Int32) := own_r3x h_u6 h_u7 h_u8 H3 hc250
                                    refine own_go (fun _ k => XS.icmpNo X249.here hx rfl (hb hby at_273) rfl (teq hc251).2 k) ?_
                                    show own_G _ _ _ (T249.setTop (mkF m 276 #[.val (.int p0), .val (.int p1), .val (.long p2), .second, .val (.int s6), .val (.int l6), .val (.int m6), .val (.ref b1), .val (.int s3), .val (.int l3), .val (.int m3), .val (.long ((p2.toUInt64 >>> ((24 : Int32) &&& 0x3f).toInt64.toUInt64).toInt64)), .second, .val (.ref b28), .val (.int (1 : Int32)), .unset] [])) _ _ _ _
                                    refine own_go (fun _ k => XS.iconst X249.here hx rfl (hb hby at_276) k) ?_
                                    show own_G _ _ _ (T249.setTop (mkF m 277 #[.val (.int p0), .val (.int p1), .val (.long p2), .second, .val (.int s6), .val (.int l6), .val (.int m6), .val (.ref b1), .val (.int s3), .val (.int l3), .val (.int m3), .val (.long ((p2.toUInt64 >>> ((24 : Int32) &&& 0x3f).toInt64.toUInt64).toInt64)), .second, .val (.ref b28), .val (.int (1 : Int32)), .unset] [(.int (1 : Int32))])) _ _ _ _
                                    refine own_go (fun _ k => XS.goto X249.here hx rfl (pc0 := 277) (pc' := 281) rfl (hb hby at_277) (by decide) (by decide) k) ?_
                                    show own_G _ _ _ (T249.setTop (mkF m 281 #[.val (.int p0), .val (.int p1), .val (.long p2), .second, .val (.int s6), .val (.int l6), .val (.int m6), .val (.ref b1), .val (.int s3), .val (.int l3), .val (.int m3), .val (.long ((p2.toUInt64 >>> ((24 : Int32) &&& 0x3f).toInt64.toUInt64).toInt64)), .second, .val (.ref b28), .val (.int (1 : Int32)), .unset] [(.int (1 : Int32))])) _ _ _ _
                                    refine own_go (fun _ k => XS.istore X249.here hx rfl (hb hby at_281) rfl (l' := #[.val (.int p0), .val (.int p1), .val (.long p2), .second, .val (.int s6), .val (.int l6), .val (.int m6), .val (.ref b1), .val (.int s3), .val (.int l3), .val (.int m3), .val (.long ((p2.toUInt64 >>> ((24 : Int32) &&& 0x3f).toInt64.toUInt64).toInt64)), .second, .val (.ref b28), .val (.int (1 : Int32)), .val (.int (1 : Int32))]) rfl k) ?_
                                    show own_G _ _ _ (T249.setTop (mkF m 283 #[.val (.int p0), .val (.int p1), .val (.long p2), .second, .val (.int s6), .val (.int l6), .val (.int m6), .val (.ref b1), .val (.int s3), .val (.int l3), .val (.int m3), .val (.long ((p2.toUInt64 >>> ((24 : Int32) &&& 0x3f).toInt64.toUInt64).toInt64)), .second, .val (.ref b28), .val (.int (1 : Int32)), .val (.int (1 : Int32))] [])) _ _ _ _
                                    refine own_go (fun _ k => XS.iload X249.here hx rfl (hb hby at_283) rfl k) ?_
                                    show own_G _ _ _ (T249.setTop (mkF m 285 #[.val (.int p0), .val (.int p1), .val (.long p2), .second, .val (.int s6), .val (.int l6), .val (.int m6), .val (.ref b1), .val (.int s3), .val (.int l3), .val (.int m3), .val (.long ((p2.toUInt64 >>> ((24 : Int32) &&& 0x3f).toInt64.toUInt64).toInt64)), .second, .val (.ref b28), .val (.int (1 : Int32)), .val (.int (1 : Int32))] [(.int (1 : Int32))])) _ _ _ _
                                    have hc252 : ¬ ((1 : Int32) = (0 : Int32)) := (by decide)
                                    refine own_go (fun _ k => XS.ifNo X249.here hx rfl (hb hby at_285) rfl ((if0 _ _).trans (feq hc252).1) k) ?_
                                    show own_G _ _ _ (T249.setTop (mkF m 288 #[.val (.int p0), .val (.int p1), .val (.long p2), .second, .val (.int s6), .val (.int l6), .val (.int m6), .val (.ref b1), .val (.int s3), .val (.int l3), .val (.int m3), .val (.long ((p2.toUInt64 >>> ((24 : Int32) &&& 0x3f).toInt64.toUInt64).toInt64)), .second, .val (.ref b28), .val (.int (1 : Int32)), .val (.int (1 : Int32))] [])) _ _ _ _
                                    refine own_go (fun _ k => XS.iload X249.here hx rfl (hb hby at_288) rfl k) ?_
                                    show own_G _ _ _ (T249.setTop (mkF m 290 #[.val (.int p0), .val (.int p1), .val (.long p2), .second, .val (.int s6), .val (.int l6), .val (.int m6), .val (.ref b1), .val (.int s3), .val (.int l3), .val (.int m3), .val (.long ((p2.toUInt64 >>> ((24 : Int32) &&& 0x3f).toInt64.toUInt64).toInt64)), .second, .val (.ref b28), .val (.int (1 : Int32)), .val (.int (1 : Int32))] [(.int (1 : Int32))])) _ _ _ _
                                    have hc253 : ¬ ((1 : Int32) = (0 : Int32)) := (by decide)
                                    refine own_go (fun _ k => XS.ifNo X249.here hx rfl (hb hby at_290) rfl ((if0 _ _).trans (feq hc253).1) k) ?_
                                    show own_G _ _ _ (T249.setTop (mkF m 293 #[.val (.int p0), .val (.int p1), .val (.long p2), .second, .val (.int s6), .val (.int l6), .val (.int m6), .val (.ref b1), .val (.int s3), .val (.int l3), .val (.int m3), .val (.long ((p2.toUInt64 >>> ((24 : Int32) &&& 0x3f).toInt64.toUInt64).toInt64)), .second, .val (.ref b28), .val (.int (1 : Int32)), .val (.int (1 : Int32))] [])) _ _ _ _
                                    refine own_go (fun _ k => XS.iconst X249.here hx rfl (hb hby at_293) k) ?_
                                    show own_G _ _ _ (T249.setTop (mkF m 294 #[.val (.int p0), .val (.int p1), .val (.long p2), .second, .val (.int s6), .val (.int l6), .val (.int m6), .val (.ref b1), .val (.int s3), .val (.int l3), .val (.int m3), .val (.long ((p2.toUInt64 >>> ((24 : Int32) &&& 0x3f).toInt64.toUInt64).toInt64)), .second, .val (.ref b28), .val (.int (1 : Int32)), .val (.int (1 : Int32))] [(.int (1 : Int32))])) _ _ _ _
                                    refine own_go (fun _ k => XS.goto X249.here hx rfl (pc0 := 294) (pc' := 298) rfl (hb hby at_294) (by decide) (by decide) k) ?_
                                    show own_G _ _ _ (T249.setTop (mkF m 298 #[.val (.int p0), .val (.int p1), .val (.long p2), .second, .val (.int s6), .val (.int l6), .val (.int m6), .val (.ref b1), .val (.int s3), .val (.int l3), .val (.int m3), .val (.long ((p2.toUInt64 >>> ((24 : Int32) &&& 0x3f).toInt64.toUInt64).toInt64)), .second, .val (.ref b28), .val (.int (1 : Int32)), .val (.int (1 : Int32))] [(.int (1 : Int32))])) _ _ _ _
                                    exact own_endN X249 hx hlk (t := .boolean) Bd.returns (by simp) (hb hby at_298) (by decide) (by decide) (Q := (Q0 Z p0 p1 p2 zc h0 n0)) (by rw [eh249]; exact ⟨rfl, N249, K234_0⟩)
                                  · refine own_go (fun _ k => XS.ifYes X249.here hx rfl (pc0 := 265) (pc' := 272) rfl (hb hby at_265) rfl ((if0 _ _).trans (feq hc250).2) (by decide) (by decide) k) ?_
                                    show own_G _ _ _ (T249.setTop (mkF m 272 #[.val (.int p0), .val (.int p1), .val (.long p2), .second, .val (.int s6), .val (.int l6), .val (.int m6), .val (.ref b1), .val (.int s3), .val (.int l3), .val (.int m3), .val (.long ((p2.toUInt64 >>> ((24 : Int32) &&& 0x3f).toInt64.toUInt64).toInt64)), .second, .val (.ref b28), .val (.int (1 : Int32)), .unset] [(.int (if (own_f3 ((nar .char u6)).toInt8.toInt32 ((nar .char u7)).toInt8.toInt32 ((nar .char u8)).toInt8.toInt32) < (0 : Int32) then (1 : Int32) else (0 : Int32)))])) _ _ _ _
                                    refine own_go (fun _ k => XS.iconst X249.here hx rfl (hb hby at_272) k) ?_
                                    show own_G _ _ _ (T249.setTop (mkF m 273 #[.val (.int p0), .val (.int p1), .val (.long p2), .second, .val (.int s6), .val (.int l6), .val (.int m6), .val (.ref b1), .val (.int s3), .val (.int l3), .val (.int m3), .val (.long ((p2.toUInt64 >>> ((24 : Int32) &&& 0x3f).toInt64.toUInt64).toInt64)), .second, .val (.ref b28), .val (.int (1 : Int32)), .unset] [(.int (0 : Int32)), (.int (if (own_f3 ((nar .char u6)).toInt8.toInt32 ((nar .char u7)).toInt8.toInt32 ((nar .char u8)).toInt8.toInt32) < (0 : Int32) then (1 : Int32) else (0 : Int32)))])) _ _ _ _
                                    have hc254 : (if (own_f3 ((nar .char u6)).toInt8.toInt32 ((nar .char u7)).toInt8.toInt32 ((nar .char u8)).toInt8.toInt32) < (0 : Int32) then (1 : Int32) else (0 : Int32)) = (0 : Int32) := own_r3x' h_u6 h_u7 h_u8 H3 hc250
                                    refine own_go (fun _ k => XS.icmpNo X249.here hx rfl (hb hby at_273) rfl (teq hc254).2 k) ?_
                                    show own_G _ _ _ (T249.setTop (mkF m 276 #[.val (.int p0), .val (.int p1), .val (.long p2), .second, .val (.int s6), .val (.int l6), .val (.int m6), .val (.ref b1), .val (.int s3), .val (.int l3), .val (.int m3), .val (.long ((p2.toUInt64 >>> ((24 : Int32) &&& 0x3f).toInt64.toUInt64).toInt64)), .second, .val (.ref b28), .val (.int (1 : Int32)), .unset] [])) _ _ _ _
                                    refine own_go (fun _ k => XS.iconst X249.here hx rfl (hb hby at_276) k) ?_
                                    show own_G _ _ _ (T249.setTop (mkF m 277 #[.val (.int p0), .val (.int p1), .val (.long p2), .second, .val (.int s6), .val (.int l6), .val (.int m6), .val (.ref b1), .val (.int s3), .val (.int l3), .val (.int m3), .val (.long ((p2.toUInt64 >>> ((24 : Int32) &&& 0x3f).toInt64.toUInt64).toInt64)), .second, .val (.ref b28), .val (.int (1 : Int32)), .unset] [(.int (1 : Int32))])) _ _ _ _
                                    refine own_go (fun _ k => XS.goto X249.here hx rfl (pc0 := 277) (pc' := 281) rfl (hb hby at_277) (by decide) (by decide) k) ?_
                                    show own_G _ _ _ (T249.setTop (mkF m 281 #[.val (.int p0), .val (.int p1), .val (.long p2), .second, .val (.int s6), .val (.int l6), .val (.int m6), .val (.ref b1), .val (.int s3), .val (.int l3), .val (.int m3), .val (.long ((p2.toUInt64 >>> ((24 : Int32) &&& 0x3f).toInt64.toUInt64).toInt64)), .second, .val (.ref b28), .val (.int (1 : Int32)), .unset] [(.int (1 : Int32))])) _ _ _ _
                                    refine own_go (fun _ k => XS.istore X249.here hx rfl (hb hby at_281) rfl (l' := #[.val (.int p0), .val (.int p1), .val (.long p2), .second, .val (.int s6), .val (.int l6), .val (.int m6), .val (.ref b1), .val (.int s3), .val (.int l3), .val (.int m3), .val (.long ((p2.toUInt64 >>> ((24 : Int32) &&& 0x3f).toInt64.toUInt64).toInt64)), .second, .val (.ref b28), .val (.int (1 : Int32)), .val (.int (1 : Int32))]) rfl k) ?_
                                    show own_G _ _ _ (T249.setTop (mkF m 283 #[.val (.int p0), .val (.int p1), .val (.long p2), .second, .val (.int s6), .val (.int l6), .val (.int m6), .val (.ref b1), .val (.int s3), .val (.int l3), .val (.int m3), .val (.long ((p2.toUInt64 >>> ((24 : Int32) &&& 0x3f).toInt64.toUInt64).toInt64)), .second, .val (.ref b28), .val (.int (1 : Int32)), .val (.int (1 : Int32))] [])) _ _ _ _
                                    refine own_go (fun _ k => XS.iload X249.here hx rfl (hb hby at_283) rfl k) ?_
                                    show own_G _ _ _ (T249.setTop (mkF m 285 #[.val (.int p0), .val (.int p1), .val (.long p2), .second, .val (.int s6), .val (.int l6), .val (.int m6), .val (.ref b1), .val (.int s3), .val (.int l3), .val (.int m3), .val (.long ((p2.toUInt64 >>> ((24 : Int32) &&& 0x3f).toInt64.toUInt64).toInt64)), .second, .val (.ref b28), .val (.int (1 : Int32)), .val (.int (1 : Int32))] [(.int (1 : Int32))])) _ _ _ _
                                    have hc255 : ¬ ((1 : Int32) = (0 : Int32)) := (by decide)
                                    refine own_go (fun _ k => XS.ifNo X249.here hx rfl (hb hby at_285) rfl ((if0 _ _).trans (feq hc255).1) k) ?_
                                    show own_G _ _ _ (T249.setTop (mkF m 288 #[.val (.int p0), .val (.int p1), .val (.long p2), .second, .val (.int s6), .val (.int l6), .val (.int m6), .val (.ref b1), .val (.int s3), .val (.int l3), .val (.int m3), .val (.long ((p2.toUInt64 >>> ((24 : Int32) &&& 0x3f).toInt64.toUInt64).toInt64)), .second, .val (.ref b28), .val (.int (1 : Int32)), .val (.int (1 : Int32))] [])) _ _ _ _
                                    refine own_go (fun _ k => XS.iload X249.here hx rfl (hb hby at_288) rfl k) ?_
                                    show own_G _ _ _ (T249.setTop (mkF m 290 #[.val (.int p0), .val (.int p1), .val (.long p2), .second, .val (.int s6), .val (.int l6), .val (.int m6), .val (.ref b1), .val (.int s3), .val (.int l3), .val (.int m3), .val (.long ((p2.toUInt64 >>> ((24 : Int32) &&& 0x3f).toInt64.toUInt64).toInt64)), .second, .val (.ref b28), .val (.int (1 : Int32)), .val (.int (1 : Int32))] [(.int (1 : Int32))])) _ _ _ _
                                    have hc256 : ¬ ((1 : Int32) = (0 : Int32)) := (by decide)
                                    refine own_go (fun _ k => XS.ifNo X249.here hx rfl (hb hby at_290) rfl ((if0 _ _).trans (feq hc256).1) k) ?_
                                    show own_G _ _ _ (T249.setTop (mkF m 293 #[.val (.int p0), .val (.int p1), .val (.long p2), .second, .val (.int s6), .val (.int l6), .val (.int m6), .val (.ref b1), .val (.int s3), .val (.int l3), .val (.int m3), .val (.long ((p2.toUInt64 >>> ((24 : Int32) &&& 0x3f).toInt64.toUInt64).toInt64)), .second, .val (.ref b28), .val (.int (1 : Int32)), .val (.int (1 : Int32))] [])) _ _ _ _
                                    refine own_go (fun _ k => XS.iconst X249.here hx rfl (hb hby at_293) k) ?_
                                    show own_G _ _ _ (T249.setTop (mkF m 294 #[.val (.int p0), .val (.int p1), .val (.long p2), .second, .val (.int s6), .val (.int l6), .val (.int m6), .val (.ref b1), .val (.int s3), .val (.int l3), .val (.int m3), .val (.long ((p2.toUInt64 >>> ((24 : Int32) &&& 0x3f).toInt64.toUInt64).toInt64)), .second, .val (.ref b28), .val (.int (1 : Int32)), .val (.int (1 : Int32))] [(.int (1 : Int32))])) _ _ _ _
                                    refine own_go (fun _ k => XS.goto X249.here hx rfl (pc0 := 294) (pc' := 298) rfl (hb hby at_294) (by decide) (by decide) k) ?_
                                    show own_G _ _ _ (T249.setTop (mkF m 298 #[.val (.int p0), .val (.int p1), .val (.long p2), .second, .val (.int s6), .val (.int l6), .val (.int m6), .val (.ref b1), .val (.int s3), .val (.int l3), .val (.int m3), .val (.long ((p2.toUInt64 >>> ((24 : Int32) &&& 0x3f).toInt64.toUInt64).toInt64)), .second, .val (.ref b28), .val (.int (1 : Int32)), .val (.int (1 : Int32))] [(.int (1 : Int32))])) _ _ _ _
                                    exact own_endN X249 hx hlk (t := .boolean) Bd.returns (by simp) (hb hby at_298) (by decide) (by decide) (Q := (Q0 Z p0 p1 p2 zc h0 n0)) (by rw [eh249]; exact ⟨rfl, N249, K234_0⟩)
set_option maxRecDepth 65536 in
set_option maxHeartbeats 40000000 in
theorem comes_1 {Post : Tables → Env → Array Value → State → Outcome → State → Prop} (hpost : ∀ tb e args s v u, (limb_1_1.after args s (.returned v) u = true ∧ limb_1_2.after args s (.returned v) u = true ∧ True) → FrameEnd s (.returned v) u (Jvm.fieldLocs frame_1_writes args s ++ Jvm.arrayLocs frame_1_arrays args s ++ Jvm.staticLocs frame_1_statics s) 24 128 → Post tb e args s (.returned v) u) :
    ArmFor flags0 classFile x code maxLocals ret World_1 tables_1 room_1 Calls_1 rest_1 Pre_1 Post := by
  intro l hfl _ _ p e ha hc hk s m args below hf hA hF happ hP
  obtain ⟨hcalls, hrest, hpre⟩ := hP
  obtain ⟨-, -, -, hnamed, -, -, -, hat⟩ := (Spec.applies_iff hf).mp happ
  obtain ⟨hg, hn⟩ := and_e (Cond.before_iff.mp (show (Jvm.Cond.and given_1 narrow_1).before args s = true from hpre))
  obtain ⟨g0, hg1⟩ := and_e hg
  obtain ⟨a0, r0⟩ := and_e hg1
  obtain ⟨a1, r1⟩ := and_e r0
  obtain ⟨w0, w1, w2, rfl⟩ : ∃ w0 w1 w2 : Value, args = #[w0, w1, w2] := by
    have hs : args.size = 3 := by simpa [Cond.value, given_1] using g0
    obtain ⟨L⟩ := args
    match L, hs with
    | [w0, w1, w2], _ => exact ⟨w0, w1, w2, rfl⟩
  have hw := fun d (hd : d ∈ tables_1) => atoms_spec (ws := Jvm.Cond.code x code maxLocals ret :: tables_1) hat d (List.mem_cons_of_mem _ hd)
  have hfit : Fit s := fun {y c} hc i hi => by
    obtain ⟨ha, rfl⟩ := Array.getElem?_eq_some_iff.mp hc
    have q := List.all_eq_true.mp ((Array.all_eq_true_iff_forall_mem.mp hF) _ (Array.getElem_mem ha)) i (List.mem_range.mpr hi)
    simpa [Array.getElem?_eq_getElem hi] using q
  obtain ⟨i0, ei0⟩ := is_v a0
  obtain rfl : w0 = (.int i0) := Option.some.inj ei0
  obtain ⟨i1, ei1⟩ := is_v a1
  obtain rfl : w1 = (.int i1) := Option.some.inj ei1
  obtain ⟨i2, ei2⟩ := isL_v r1
  obtain rfl : w2 = (.long i2) := Option.some.inj ei2
  obtain ⟨hsets, hown0⟩ := atoms_of _ (rest_1_c_eq ▸ (show rest_1_c.before _ s = true from hrest))
  have n5 := not_v (Cond.before_iff.mp (hsets _ (List.mem_of_getElem? (i := 2) rfl)))
  obtain ⟨zc, ez⟩ := is_v (Cond.before_iff.mp (hsets _ (List.mem_of_getElem? (i := 1) rfl)))
  have SZ : Sta s s.heap "java/lang/String" "COMPACT_STRINGS" "Z" (.int zc) := Sta.start ez (Or.inl (hsets _ (List.mem_of_getElem? (i := 0) rfl)))
  have hz : ¬ (zc = (0 : Int32)) := gotF (Cond.eq_ints ez (Term.int_eval (0))) n5
  obtain ⟨n, o, h1, h2, h3, _, L, rfl, ⟨rfl, N, -⟩, hq⟩ := rm0 l s _ hw tables_1 i0 i1 i2 zc s.heap s.heap.size (Nat.le_refl _) (Old.start s) SZ hz p e ha hc hk s m _ below hf ((Spec.applies_iff_loose hf).mp happ).1 ⟨rfl, State.Warmed39.refl s, rfl⟩ trivial
  refine ⟨n, _, h1, h2, h3, hpost _ _ _ _ _ _ ⟨Cond.after_iff.mpr rfl, Cond.after_iff.mpr (eq_i res_at (Term.int_eval (1)) (rfl)), trivial⟩ ⟨hq.1, hq.2.1, (hq.2.2.sift fun y hy => Or.inr (N y hy)).mono (by decide) (by decide)⟩⟩
theorem main_1_1 : Claimed_1_1 := comes_1 fun _ _ _ _ _ _ h hF => ⟨h.1, hF⟩
theorem main_1_2 : Claimed_1_2 := comes_1 fun _ _ _ _ _ _ h hF => ⟨h.2.1, hF⟩
end Jvm.Pilot.@@N@@
namespace Jvm.Pilot.@@N@@
open Jvm Jvm.ClassFile Sem Op Lib Jvm.Free Jvm.Stand Jvm.Pilot.@@N@@.Jvm.D
/-! MADE BY PROGRAM (witnessworld.py) out of the Statement's table words and the real class files: 22 classes; the members and pool entries that the words name. The judged class is class 1, her method 1. -/
namespace start1
open Jvm.ClassFile
def u (s : String) : CpInfo := .utf8 (stringToUtf16 s)
/-- a pool by its gaps: so many unusable entries, then the entry; so many at the end -/
def gap : Nat → List CpInfo → List CpInfo
  | 0, r => r
  | n + 1, r => .unusable :: gap n r
def poolList (es : List (Nat × CpInfo)) (last : Nat) : List CpInfo := es.foldr (fun e r => gap e.1 (e.2 :: r)) (gap last [])
def pool (es : List (Nat × CpInfo)) (last : Nat) : Array CpInfo := ⟨poolList es last⟩
def fileOf (pool : Array CpInfo) (this : Nat) (attrs : Array Attribute := #[]) (ms : Array MethodInfo := #[]) (fl : Nat := 33) (sup : Nat := 0) (ifs : Array Nat := #[]) (fds : Array FieldInfo := #[]) : ClassFile where
  minorVersion := 0
  majorVersion := 65
  constantPool := pool
  accessFlags := fl
  thisClass := this
  superClass := sup
  interfaces := ifs
  fields := fds
  methods := ms
  attributes := attrs
def plain (name : String) (sup : Option ClassId) : Class where
  name := name
  kind := .ordinary
  loader := none
  accessFlags := 33
  super := sup
  interfaces := #[]
  cf := none
  fields := #[]
  methods := #[]
  instanceTypes := #[]
  staticTypes := #[]
  resolved := #[]
  callSites := []
  init := .initialized
  statics := none
  mirror := none

def pool0 : Array CpInfo := pool [(5, u "<init>"), (0, u "()V"), (1, .class_ 10), (1, u "java/lang/Object")] 113

def k0c0 : Code := { maxStack := 0, maxLocals := 1, code := object_method_1_code, exceptionTable := #[], attributes := #[] }
def k0m0 : Method := { name := "<init>", desc := "()V", sig := { parameters := [], returnType := none }, accessFlags := 1, code := some k0c0 }
/-- java/lang/Object -/
def k0 : Class := { plain "java/lang/Object" none with
  accessFlags := 33
  interfaces := #[]
  cf := some (fileOf pool0 8 #[] #[{ accessFlags := 1, nameIndex := 5, descriptorIndex := 6, attributes := #[] }] 33 0 #[] #[])
  fields := #[]
  methods := #[k0m0]
  instanceTypes := #[]
  staticTypes := #[]
  resolved := Array.replicate 124 none
  statics := none }

def pool1 : Array CpInfo := pool [(2, .class_ 4), (1, u "java/lang/Object"), (0, u "<init>"), (0, u "()V"), (0, .integer 2147483647), (0, .methodref 9 10), (0, .class_ 11), (0, .nameAndType 12 13), (0, u "com/example/hence/hence/reasoning/DecimalIsIntegerPinLaw"), (0, u "ch"), (0, u "(IIIIJ)C"), (0, .integer 8388607), (0, .class_ 16), (0, u "com/example/hence/hence/reasoning/Decimal"), (0, .class_ 18), (0, u "java/lang/String"), (0, .methodref 17 20), (0, .nameAndType 5 21), (0, u "([C)V"), (0, .methodref 15 23), (0, .nameAndType 5 24), (0, u "(Ljava/lang/String;)V"), (0, .methodref 15 26), (0, .nameAndType 27 28), (0, u "isInteger"), (0, u "()Z"), (0, .long 15), (3, u "law"), (0, u "(IIJ)Z")] 5

def k1m0 : Method := { name := "<init>", desc := "()V", sig := { parameters := [], returnType := none }, accessFlags := 1, code := none }
def k1c1 : Code := { maxStack := 8, maxLocals := 16, code := code, exceptionTable := #[], attributes := #[] }
def k1m1 : Method := { name := "law", desc := "(IIJ)Z", sig := { parameters := [.int, .int, .long], returnType := some .boolean }, accessFlags := 9, code := some k1c1 }
def k1c2 : Code := { maxStack := 4, maxLocals := 10, code := method_3_code, exceptionTable := #[], attributes := #[] }
def k1m2 : Method := { name := "ch", desc := "(IIIIJ)C", sig := { parameters := [.int, .int, .int, .int, .long], returnType := some .char }, accessFlags := 10, code := some k1c2 }
/-- com/example/hence/hence/reasoning/DecimalIsIntegerPinLaw -/
def k1 : Class := { plain "com/example/hence/hence/reasoning/DecimalIsIntegerPinLaw" (some 0) with
  accessFlags := 49
  interfaces := #[]
  cf := some (fileOf pool1 9 #[] #[{ accessFlags := 1, nameIndex := 5, descriptorIndex := 6, attributes := #[] }, { accessFlags := 9, nameIndex := 33, descriptorIndex := 34, attributes := #[] }, { accessFlags := 10, nameIndex := 12, descriptorIndex := 13, attributes := #[] }] 49 2 #[] #[])
  fields := #[]
  methods := #[k1m0, k1m1, k1m2]
  instanceTypes := #[]
  staticTypes := #[]
  resolved := Array.replicate 40 none
  statics := none }

def pool2 : Array CpInfo := pool [(1, .methodref 2 3), (0, .class_ 4), (0, .nameAndType 5 6), (0, u "java/lang/Object"), (0, u "<init>"), (0, u "()V"), (0, .class_ 8), (0, u "java/lang/Record")] 13

def k2c0 : Code := { maxStack := 1, maxLocals := 1, code := jdk_30_method_1_code, exceptionTable := #[], attributes := #[] }
def k2m0 : Method := { name := "<init>", desc := "()V", sig := { parameters := [], returnType := none }, accessFlags := 4, code := some k2c0 }
/-- java/lang/Record -/
def k2 : Class := { plain "java/lang/Record" (some 0) with
  accessFlags := 1057
  interfaces := #[]
  cf := some (fileOf pool2 7 #[] #[{ accessFlags := 4, nameIndex := 5, descriptorIndex := 6, attributes := #[] }] 1057 2 #[] #[])
  fields := #[]
  methods := #[k2m0]
  instanceTypes := #[]
  staticTypes := #[]
  resolved := Array.replicate 22 none
  statics := none }

def pool3 : Array CpInfo := pool [(1, .class_ 2), (0, u "java/lang/Comparable"), (0, .class_ 4), (0, u "java/lang/Object")] 7

/-- java/lang/Comparable -/
def k3 : Class := { plain "java/lang/Comparable" (some 0) with
  accessFlags := 1537
  interfaces := #[]
  cf := some (fileOf pool3 1 #[] #[] 1537 3 #[] #[])
  fields := #[]
  methods := #[]
  instanceTypes := #[]
  staticTypes := #[]
  resolved := Array.replicate 12 none
  statics := none }

def pool4 : Array CpInfo := pool [(1, .methodref 2 3), (0, .class_ 4), (0, .nameAndType 5 6), (0, u "java/lang/Record"), (0, u "<init>"), (0, u "()V"), (0, .fieldref 8 9), (0, .class_ 10), (0, .nameAndType 11 12), (0, u "com/example/hence/hence/reasoning/Decimal"), (0, u "canonical"), (0, u "Ljava/lang/String;"), (2, u "INTEGER"), (0, u "Ljava/util/regex/Pattern;"), (2, u "DECIMAL"), (11, u "()Z"), (7, .class_ 41), (1, u "java/lang/String"), (2, .methodref 39 45), (0, .nameAndType 46 47), (0, u "indexOf"), (0, u "(I)I"), (35, u "(Ljava/lang/String;)V"), (42, .class_ 127), (0, u "java/lang/Comparable"), (0, u "NUMERAL"), (9, u "isInteger")] 24

def k4c0 : Code := { maxStack := 2, maxLocals := 2, code := prog_26_method_1_code, exceptionTable := #[], attributes := #[] }
def k4m0 : Method := { name := "<init>", desc := "(Ljava/lang/String;)V", sig := { parameters := [(.object "java/lang/String")], returnType := none }, accessFlags := 0, code := some k4c0 }
def k4c1 : Code := { maxStack := 2, maxLocals := 1, code := prog_26_method_3_code, exceptionTable := #[], attributes := #[] }
def k4m1 : Method := { name := "isInteger", desc := "()Z", sig := { parameters := [], returnType := some .boolean }, accessFlags := 0, code := some k4c1 }
/-- com/example/hence/hence/reasoning/Decimal -/
def k4 : Class := { plain "com/example/hence/hence/reasoning/Decimal" (some 2) with
  accessFlags := 48
  interfaces := #[3]
  cf := some (fileOf pool4 8 #[] #[{ accessFlags := 0, nameIndex := 5, descriptorIndex := 83, attributes := #[] }, { accessFlags := 0, nameIndex := 138, descriptorIndex := 31, attributes := #[] }] 48 2 #[126] #[{ accessFlags := 18, nameIndex := 11, descriptorIndex := 12, attributes := #[] }, { accessFlags := 24, nameIndex := 128, descriptorIndex := 12, attributes := #[] }, { accessFlags := 26, nameIndex := 19, descriptorIndex := 16, attributes := #[] }, { accessFlags := 26, nameIndex := 15, descriptorIndex := 16, attributes := #[] }])
  fields := #[{ name := "canonical", type := (.object "java/lang/String"), accessFlags := 18, slot := 0, constantValue := 0 }, { name := "NUMERAL", type := (.object "java/lang/String"), accessFlags := 24, slot := 0, constantValue := 0 }, { name := "DECIMAL", type := (.object "java/util/regex/Pattern"), accessFlags := 26, slot := 1, constantValue := 0 }, { name := "INTEGER", type := (.object "java/util/regex/Pattern"), accessFlags := 26, slot := 2, constantValue := 0 }]
  methods := #[k4m0, k4m1]
  instanceTypes := #[(.object "java/lang/String")]
  staticTypes := #[(.object "java/lang/String"), (.object "java/util/regex/Pattern"), (.object "java/util/regex/Pattern")]
  resolved := Array.replicate 163 none
  statics := none }

def pool5 : Array CpInfo := pool [(1, .class_ 2), (0, u "java/io/Serializable"), (0, .class_ 4), (0, u "java/lang/Object")] 2

/-- java/io/Serializable -/
def k5 : Class := { plain "java/io/Serializable" (some 0) with
  accessFlags := 1537
  interfaces := #[]
  cf := some (fileOf pool5 1 #[] #[] 1537 3 #[] #[])
  fields := #[]
  methods := #[]
  instanceTypes := #[]
  staticTypes := #[]
  resolved := Array.replicate 7 none
  statics := none }

def pool6 : Array CpInfo := pool [(2, .class_ 4), (1, u "java/lang/CharSequence"), (42, .class_ 48), (0, u "java/lang/CharSequence$1CodePointIterator"), (10, .class_ 60), (0, u "java/lang/CharSequence$1CharIterator"), (5, .class_ 67), (0, u "java/lang/Object")] 63

/-- java/lang/CharSequence -/
def k6 : Class := { plain "java/lang/CharSequence" (some 0) with
  accessFlags := 1537
  interfaces := #[]
  cf := some (fileOf pool6 2 #[.nestMembers #[47, 59]] #[] 1537 66 #[] #[])
  fields := #[]
  methods := #[]
  instanceTypes := #[]
  staticTypes := #[]
  resolved := Array.replicate 131 none
  statics := none }

def pool7 : Array CpInfo := pool [(1, .class_ 2), (0, u "java/lang/constant/Constable"), (0, .class_ 4), (0, u "java/lang/Object")] 6

/-- java/lang/constant/Constable -/
def k7 : Class := { plain "java/lang/constant/Constable" (some 0) with
  accessFlags := 1537
  interfaces := #[]
  cf := some (fileOf pool7 1 #[] #[] 1537 3 #[] #[])
  fields := #[]
  methods := #[]
  instanceTypes := #[]
  staticTypes := #[]
  resolved := Array.replicate 11 none
  statics := none }

def pool8 : Array CpInfo := pool [(1, .class_ 2), (0, u "java/lang/constant/ConstantDesc"), (0, .class_ 4), (0, u "java/lang/Object")] 32

/-- java/lang/constant/ConstantDesc -/
def k8 : Class := { plain "java/lang/constant/ConstantDesc" (some 0) with
  accessFlags := 1537
  interfaces := #[]
  cf := some (fileOf pool8 1 #[] #[] 1537 3 #[] #[])
  fields := #[]
  methods := #[]
  instanceTypes := #[]
  staticTypes := #[]
  resolved := Array.replicate 37 none
  statics := none }

def pool9 : Array CpInfo := pool [(1, .methodref 2 3), (0, .class_ 4), (0, .nameAndType 5 6), (0, u "java/lang/Object"), (0, u "<init>"), (0, u "()V"), (2, .fieldref 10 11), (0, .class_ 12), (0, .nameAndType 13 14), (0, u "java/lang/String"), (0, u "value"), (0, u "[B"), (0, .fieldref 10 16), (0, .nameAndType 17 18), (0, u "coder"), (0, u "B"), (2, u "hash"), (0, u "I"), (2, u "hashIsZero"), (0, u "Z"), (0, .methodref 10 28), (0, .nameAndType 5 29), (0, u "([CIILjava/lang/Void;)V"), (8, .fieldref 10 39), (0, .nameAndType 40 26), (0, u "COMPACT_STRINGS"), (1, .class_ 44), (1, u "java/lang/StringUTF16"), (0, u "compress"), (1, .methodref 42 48), (0, .nameAndType 49 50), (0, u "coderFromArrayLen"), (0, u "([BI)B"), (56, .class_ 109), (1, u "java/lang/StringLatin1"), (32, u "()Z"), (34, .methodref 42 178), (0, .nameAndType 45 179), (0, u "([CII)[B"), (154, u "()I"), (0, .methodref 10 336), (0, .nameAndType 17 337), (0, u "()B"), (154, .methodref 10 493), (0, .nameAndType 494 142), (0, u "isLatin1"), (10, .methodref 10 506), (0, .nameAndType 507 334), (0, u "length"), (67, .class_ 576), (0, u "java/lang/CharSequence"), (22, u "CASE_INSENSITIVE_ORDER"), (0, u "Ljava/util/Comparator;"), (32, .methodref 10 634), (0, .nameAndType 635 636), (0, u "indexOf"), (0, u "(II)I"), (0, .methodref 107 638), (0, .nameAndType 635 639), (0, u "([BIII)I"), (125, u "(I)I"), (244, u "([C)V"), (90, u "serialPersistentFields"), (0, u "[Ljava/io/ObjectStreamField;"), (0, .class_ 1104), (0, u "java/lang/String$CaseInsensitiveComparator"), (1, .class_ 1107), (0, u "java/io/Serializable"), (0, .class_ 1109), (0, u "java/lang/Comparable"), (0, .class_ 1111), (0, u "java/lang/constant/Constable"), (0, .class_ 1113), (0, u "java/lang/constant/ConstantDesc"), (2, u "serialVersionUID"), (0, u "J"), (3, u "REPL"), (0, u "C"), (2, u "LATIN1"), (1, u "UTF16")] 323

def k9m0 : Method := { name := "<init>", desc := "()V", sig := { parameters := [], returnType := none }, accessFlags := 1, code := none }
def k9c1 : Code := { maxStack := 5, maxLocals := 2, code := jdk_42_method_3_code, exceptionTable := #[], attributes := #[] }
def k9m1 : Method := { name := "<init>", desc := "([C)V", sig := { parameters := [(.array .char)], returnType := none }, accessFlags := 1, code := some k9c1 }
def k9c2 : Code := { maxStack := 2, maxLocals := 1, code := jdk_42_method_54_code, exceptionTable := #[], attributes := #[] }
def k9m2 : Method := { name := "length", desc := "()I", sig := { parameters := [], returnType := some .int }, accessFlags := 1, code := some k9c2 }
def k9c3 : Code := { maxStack := 3, maxLocals := 2, code := jdk_42_method_79_code, exceptionTable := #[], attributes := #[] }
def k9m3 : Method := { name := "indexOf", desc := "(I)I", sig := { parameters := [.int], returnType := some .int }, accessFlags := 1, code := some k9c3 }
def k9c4 : Code := { maxStack := 4, maxLocals := 3, code := jdk_42_method_80_code, exceptionTable := #[], attributes := #[] }
def k9m4 : Method := { name := "indexOf", desc := "(II)I", sig := { parameters := [.int, .int], returnType := some .int }, accessFlags := 1, code := some k9c4 }
def k9c5 : Code := { maxStack := 4, maxLocals := 6, code := jdk_42_method_149_code, exceptionTable := #[], attributes := #[] }
def k9m5 : Method := { name := "<init>", desc := "([CIILjava/lang/Void;)V", sig := { parameters := [(.array .char), .int, .int, (.object "java/lang/Void")], returnType := none }, accessFlags := 2, code := some k9c5 }
def k9c6 : Code := { maxStack := 1, maxLocals := 1, code := jdk_42_method_152_code, exceptionTable := #[], attributes := #[] }
def k9m6 : Method := { name := "coder", desc := "()B", sig := { parameters := [], returnType := some .byte }, accessFlags := 0, code := some k9c6 }
def k9c7 : Code := { maxStack := 1, maxLocals := 1, code := jdk_42_method_154_code, exceptionTable := #[], attributes := #[] }
def k9m7 : Method := { name := "isLatin1", desc := "()Z", sig := { parameters := [], returnType := some .boolean }, accessFlags := 0, code := some k9c7 }
/-- java/lang/String -/
def k9 : Class := { plain "java/lang/String" (some 0) with
  accessFlags := 49
  interfaces := #[5, 3, 6, 7, 8]
  cf := some (fileOf pool9 10 #[.nestMembers #[1103]] #[{ accessFlags := 1, nameIndex := 5, descriptorIndex := 6, attributes := #[] }, { accessFlags := 1, nameIndex := 5, descriptorIndex := 1010, attributes := #[] }, { accessFlags := 1, nameIndex := 507, descriptorIndex := 334, attributes := #[] }, { accessFlags := 1, nameIndex := 635, descriptorIndex := 765, attributes := #[] }, { accessFlags := 1, nameIndex := 635, descriptorIndex := 636, attributes := #[] }, { accessFlags := 2, nameIndex := 5, descriptorIndex := 29, attributes := #[] }, { accessFlags := 0, nameIndex := 17, descriptorIndex := 337, attributes := #[] }, { accessFlags := 0, nameIndex := 494, descriptorIndex := 142, attributes := #[] }] 49 2 #[1106, 1108, 575, 1110, 1112] #[{ accessFlags := 18, nameIndex := 13, descriptorIndex := 14, attributes := #[] }, { accessFlags := 18, nameIndex := 17, descriptorIndex := 18, attributes := #[] }, { accessFlags := 2, nameIndex := 21, descriptorIndex := 22, attributes := #[] }, { accessFlags := 2, nameIndex := 25, descriptorIndex := 26, attributes := #[] }, { accessFlags := 26, nameIndex := 1116, descriptorIndex := 1117, attributes := #[] }, { accessFlags := 24, nameIndex := 40, descriptorIndex := 26, attributes := #[] }, { accessFlags := 26, nameIndex := 1101, descriptorIndex := 1102, attributes := #[] }, { accessFlags := 26, nameIndex := 1121, descriptorIndex := 1122, attributes := #[] }, { accessFlags := 25, nameIndex := 599, descriptorIndex := 600, attributes := #[] }, { accessFlags := 24, nameIndex := 1125, descriptorIndex := 18, attributes := #[] }, { accessFlags := 24, nameIndex := 1127, descriptorIndex := 18, attributes := #[] }])
  fields := #[{ name := "value", type := (.array .byte), accessFlags := 18, slot := 0, constantValue := 0 }, { name := "coder", type := .byte, accessFlags := 18, slot := 1, constantValue := 0 }, { name := "hash", type := .int, accessFlags := 2, slot := 2, constantValue := 0 }, { name := "hashIsZero", type := .boolean, accessFlags := 2, slot := 3, constantValue := 0 }, { name := "serialVersionUID", type := .long, accessFlags := 26, slot := 0, constantValue := 0 }, { name := "COMPACT_STRINGS", type := .boolean, accessFlags := 24, slot := 1, constantValue := 0 }, { name := "serialPersistentFields", type := (.array (.object "java/io/ObjectStreamField")), accessFlags := 26, slot := 2, constantValue := 0 }, { name := "REPL", type := .char, accessFlags := 26, slot := 3, constantValue := 0 }, { name := "CASE_INSENSITIVE_ORDER", type := (.object "java/util/Comparator"), accessFlags := 25, slot := 4, constantValue := 0 }, { name := "LATIN1", type := .byte, accessFlags := 24, slot := 5, constantValue := 0 }, { name := "UTF16", type := .byte, accessFlags := 24, slot := 6, constantValue := 0 }]
  methods := #[k9m0, k9m1, k9m2, k9m3, k9m4, k9m5, k9m6, k9m7]
  instanceTypes := #[(.array .byte), .byte, .int, .boolean]
  staticTypes := #[.long, .boolean, (.array (.object "java/io/ObjectStreamField")), .char, (.object "java/util/Comparator"), .byte, .byte]
  resolved := Array.replicate 1451 none
  statics := some 0 }

def pool10 : Array CpInfo := pool [(6, .class_ 8), (1, u "java/lang/Object"), (0, u "<init>"), (0, u "()V"), (1, .class_ 14), (1, u "java/lang/StringUTF16"), (31, u "$assertionsDisabled"), (0, u "Z"), (13, u "HI_BYTE_SHIFT"), (0, u "I"), (2, u "LO_BYTE_SHIFT"), (49, .methodref 12 116), (0, .nameAndType 117 118), (0, u "compress"), (0, u "([CI[BII)I"), (3, u "([CII)[B"), (138, u "coderFromArrayLen"), (0, u "([BI)B"), (106, .class_ 371), (1, u "java/lang/StringUTF16$LinesSpliterator"), (58, u "MAX_LENGTH"), (196, .class_ 628), (0, u "java/lang/StringUTF16$CodePointsSpliterator"), (0, .class_ 630), (0, u "java/lang/StringUTF16$CharsSpliterator")] 4

def k10m0 : Method := { name := "<init>", desc := "()V", sig := { parameters := [], returnType := none }, accessFlags := 0, code := none }
def k10c1 : Code := { maxStack := 2, maxLocals := 2, code := jdk_52_method_15_code, exceptionTable := #[], attributes := #[] }
def k10m1 : Method := { name := "coderFromArrayLen", desc := "([BI)B", sig := { parameters := [(.array .byte), .int], returnType := some .byte }, accessFlags := 8, code := some k10c1 }
def k10c2 : Code := { maxStack := 5, maxLocals := 6, code := jdk_52_method_16_code, exceptionTable := #[], attributes := #[] }
def k10m2 : Method := { name := "compress", desc := "([CII)[B", sig := { parameters := [(.array .char), .int, .int], returnType := some (.array .byte) }, accessFlags := 9, code := some k10c2 }
def k10c3 : Code := { maxStack := 3, maxLocals := 7, code := jdk_52_method_21_code, exceptionTable := #[], attributes := #[] }
def k10m3 : Method := { name := "compress", desc := "([CI[BII)I", sig := { parameters := [(.array .char), .int, (.array .byte), .int, .int], returnType := some .int }, accessFlags := 9, code := some k10c3 }
/-- java/lang/StringUTF16 -/
def k10 : Class := { plain "java/lang/StringUTF16" (some 0) with
  accessFlags := 48
  interfaces := #[]
  cf := some (fileOf pool10 12 #[.nestMembers #[627, 629, 369]] #[{ accessFlags := 0, nameIndex := 9, descriptorIndex := 10, attributes := #[] }, { accessFlags := 8, nameIndex := 261, descriptorIndex := 262, attributes := #[] }, { accessFlags := 9, nameIndex := 117, descriptorIndex := 122, attributes := #[] }, { accessFlags := 9, nameIndex := 117, descriptorIndex := 118, attributes := #[] }] 48 6 #[] #[{ accessFlags := 26, nameIndex := 61, descriptorIndex := 62, attributes := #[] }, { accessFlags := 26, nameIndex := 65, descriptorIndex := 62, attributes := #[] }, { accessFlags := 24, nameIndex := 430, descriptorIndex := 62, attributes := #[] }, { accessFlags := 4120, nameIndex := 46, descriptorIndex := 47, attributes := #[] }])
  fields := #[{ name := "HI_BYTE_SHIFT", type := .int, accessFlags := 26, slot := 0, constantValue := 0 }, { name := "LO_BYTE_SHIFT", type := .int, accessFlags := 26, slot := 1, constantValue := 0 }, { name := "MAX_LENGTH", type := .int, accessFlags := 24, slot := 2, constantValue := 0 }, { name := "$assertionsDisabled", type := .boolean, accessFlags := 4120, slot := 3, constantValue := 0 }]
  methods := #[k10m0, k10m1, k10m2, k10m3]
  instanceTypes := #[]
  staticTypes := #[.int, .int, .int, .boolean]
  resolved := Array.replicate 635 none
  statics := none }

def pool11 : Array CpInfo := pool [(4, .class_ 6), (1, u "java/lang/Object"), (0, u "<init>"), (0, u "()V"), (5, .class_ 16), (1, u "java/lang/StringLatin1"), (21, .methodref 39 40), (0, .class_ 41), (0, .nameAndType 42 43), (0, u "java/lang/Math"), (0, u "min"), (0, u "(II)I"), (44, .methodref 14 89), (0, .nameAndType 90 91), (0, u "canEncode"), (0, u "(I)Z"), (0, .methodref 39 93), (0, .nameAndType 94 43), (0, u "max"), (0, .methodref 14 96), (0, .nameAndType 97 98), (0, u "indexOfChar"), (0, u "([BIII)I"), (2, u "indexOf"), (19, u "$assertionsDisabled"), (0, u "Z"), (98, .class_ 223), (1, u "java/lang/StringLatin1$LinesSpliterator"), (166, .class_ 391), (0, u "java/lang/StringLatin1$CharsSpliterator")] 3

def k11m0 : Method := { name := "<init>", desc := "()V", sig := { parameters := [], returnType := none }, accessFlags := 0, code := none }
def k11c1 : Code := { maxStack := 2, maxLocals := 1, code := jdk_43_method_4_code, exceptionTable := #[], attributes := #[] }
def k11m1 : Method := { name := "canEncode", desc := "(I)Z", sig := { parameters := [.int], returnType := some .boolean }, accessFlags := 9, code := some k11c1 }
def k11c2 : Code := { maxStack := 4, maxLocals := 4, code := jdk_43_method_22_code, exceptionTable := #[], attributes := #[] }
def k11m2 : Method := { name := "indexOf", desc := "([BIII)I", sig := { parameters := [(.array .byte), .int, .int, .int], returnType := some .int }, accessFlags := 9, code := some k11c2 }
def k11c3 : Code := { maxStack := 2, maxLocals := 6, code := jdk_43_method_23_code, exceptionTable := #[], attributes := #[] }
def k11m3 : Method := { name := "indexOfChar", desc := "([BIII)I", sig := { parameters := [(.array .byte), .int, .int, .int], returnType := some .int }, accessFlags := 10, code := some k11c3 }
/-- java/lang/StringLatin1 -/
def k11 : Class := { plain "java/lang/StringLatin1" (some 0) with
  accessFlags := 48
  interfaces := #[]
  cf := some (fileOf pool11 14 #[.nestMembers #[390, 221]] #[{ accessFlags := 0, nameIndex := 7, descriptorIndex := 8, attributes := #[] }, { accessFlags := 9, nameIndex := 90, descriptorIndex := 91, attributes := #[] }, { accessFlags := 9, nameIndex := 101, descriptorIndex := 98, attributes := #[] }, { accessFlags := 10, nameIndex := 97, descriptorIndex := 98, attributes := #[] }] 48 4 #[] #[{ accessFlags := 4120, nameIndex := 121, descriptorIndex := 122, attributes := #[] }])
  fields := #[{ name := "$assertionsDisabled", type := .boolean, accessFlags := 4120, slot := 0, constantValue := 0 }]
  methods := #[k11m0, k11m1, k11m2, k11m3]
  instanceTypes := #[]
  staticTypes := #[.boolean]
  resolved := Array.replicate 395 none
  statics := none }

def pool12 : Array CpInfo := pool [(1, .class_ 2), (0, u "java/lang/Math"), (1, .class_ 6), (1, u "java/lang/Object"), (0, u "<init>"), (0, u "()V"), (89, .class_ 100), (1, u "java/lang/Math$RandomNumberGeneratorHolder"), (71, u "negativeZeroFloatBits"), (0, u "J"), (2, u "negativeZeroDoubleBits"), (21, u "max"), (2, u "min"), (43, u "$assertionsDisabled"), (0, u "Z"), (88, u "(II)I"), (2, u "twoToTheDoubleScaleDown"), (0, u "D"), (4, u "twoToTheDoubleScaleUp"), (9, u "E"), (3, u "PI"), (2, u "TAU"), (2, u "DEGREES_TO_RADIANS"), (0, u "RADIANS_TO_DEGREES")] 94

def k12m0 : Method := { name := "<init>", desc := "()V", sig := { parameters := [], returnType := none }, accessFlags := 2, code := none }
def k12c1 : Code := { maxStack := 2, maxLocals := 2, code := jdk_29_method_65_code, exceptionTable := #[], attributes := #[] }
def k12m1 : Method := { name := "max", desc := "(II)I", sig := { parameters := [.int, .int], returnType := some .int }, accessFlags := 9, code := some k12c1 }
def k12c2 : Code := { maxStack := 2, maxLocals := 2, code := jdk_29_method_69_code, exceptionTable := #[], attributes := #[] }
def k12m2 : Method := { name := "min", desc := "(II)I", sig := { parameters := [.int, .int], returnType := some .int }, accessFlags := 9, code := some k12c2 }
/-- java/lang/Math -/
def k12 : Class := { plain "java/lang/Math" (some 0) with
  accessFlags := 49
  interfaces := #[]
  cf := some (fileOf pool12 1 #[.nestMembers #[98]] #[{ accessFlags := 2, nameIndex := 7, descriptorIndex := 8, attributes := #[] }, { accessFlags := 9, nameIndex := 198, descriptorIndex := 335, attributes := #[] }, { accessFlags := 9, nameIndex := 201, descriptorIndex := 335, attributes := #[] }] 49 4 #[] #[{ accessFlags := 25, nameIndex := 354, descriptorIndex := 339, attributes := #[] }, { accessFlags := 25, nameIndex := 358, descriptorIndex := 339, attributes := #[] }, { accessFlags := 25, nameIndex := 361, descriptorIndex := 339, attributes := #[] }, { accessFlags := 26, nameIndex := 364, descriptorIndex := 339, attributes := #[] }, { accessFlags := 26, nameIndex := 365, descriptorIndex := 339, attributes := #[] }, { accessFlags := 26, nameIndex := 172, descriptorIndex := 173, attributes := #[] }, { accessFlags := 26, nameIndex := 176, descriptorIndex := 173, attributes := #[] }, { accessFlags := 8, nameIndex := 344, descriptorIndex := 339, attributes := #[] }, { accessFlags := 8, nameIndex := 338, descriptorIndex := 339, attributes := #[] }, { accessFlags := 4120, nameIndex := 245, descriptorIndex := 246, attributes := #[] }])
  fields := #[{ name := "E", type := .double, accessFlags := 25, slot := 0, constantValue := 0 }, { name := "PI", type := .double, accessFlags := 25, slot := 1, constantValue := 0 }, { name := "TAU", type := .double, accessFlags := 25, slot := 2, constantValue := 0 }, { name := "DEGREES_TO_RADIANS", type := .double, accessFlags := 26, slot := 3, constantValue := 0 }, { name := "RADIANS_TO_DEGREES", type := .double, accessFlags := 26, slot := 4, constantValue := 0 }, { name := "negativeZeroFloatBits", type := .long, accessFlags := 26, slot := 5, constantValue := 0 }, { name := "negativeZeroDoubleBits", type := .long, accessFlags := 26, slot := 6, constantValue := 0 }, { name := "twoToTheDoubleScaleUp", type := .double, accessFlags := 8, slot := 7, constantValue := 0 }, { name := "twoToTheDoubleScaleDown", type := .double, accessFlags := 8, slot := 8, constantValue := 0 }, { name := "$assertionsDisabled", type := .boolean, accessFlags := 4120, slot := 9, constantValue := 0 }]
  methods := #[k12m0, k12m1, k12m2]
  instanceTypes := #[]
  staticTypes := #[.double, .double, .double, .double, .double, .long, .long, .double, .double, .boolean]
  resolved := Array.replicate 460 none
  statics := none }

def pool13 : Array CpInfo := pool [(2, .class_ 4), (1, u "java/lang/Object"), (0, u "<init>"), (0, u "()V"), (17, .class_ 26), (1, u "jdk/internal/util/Preconditions"), (28, .class_ 56), (0, u "jdk/internal/util/Preconditions$4"), (57, .class_ 115), (0, u "jdk/internal/util/Preconditions$1"), (7, u "SIOOBE_FORMATTER"), (0, u "Ljava/util/function/BiFunction;"), (0, .class_ 126), (0, u "jdk/internal/util/Preconditions$2"), (3, u "AIOOBE_FORMATTER"), (0, .class_ 132), (0, u "jdk/internal/util/Preconditions$3"), (3, u "IOOBE_FORMATTER")] 57

def k13m0 : Method := { name := "<init>", desc := "()V", sig := { parameters := [], returnType := none }, accessFlags := 1, code := none }
/-- jdk/internal/util/Preconditions -/
def k13 : Class := { plain "jdk/internal/util/Preconditions" (some 0) with
  accessFlags := 33
  interfaces := #[]
  cf := some (fileOf pool13 24 #[.nestMembers #[55, 131, 125, 114]] #[{ accessFlags := 1, nameIndex := 5, descriptorIndex := 6, attributes := #[] }] 33 2 #[] #[{ accessFlags := 25, nameIndex := 123, descriptorIndex := 124, attributes := #[] }, { accessFlags := 25, nameIndex := 130, descriptorIndex := 124, attributes := #[] }, { accessFlags := 25, nameIndex := 136, descriptorIndex := 124, attributes := #[] }])
  fields := #[{ name := "SIOOBE_FORMATTER", type := (.object "java/util/function/BiFunction"), accessFlags := 25, slot := 0, constantValue := 0 }, { name := "AIOOBE_FORMATTER", type := (.object "java/util/function/BiFunction"), accessFlags := 25, slot := 1, constantValue := 0 }, { name := "IOOBE_FORMATTER", type := (.object "java/util/function/BiFunction"), accessFlags := 25, slot := 2, constantValue := 0 }]
  methods := #[k13m0]
  instanceTypes := #[]
  staticTypes := #[(.object "java/util/function/BiFunction"), (.object "java/util/function/BiFunction"), (.object "java/util/function/BiFunction")]
  resolved := Array.replicate 194 none
  statics := some 1 }

def pool14 : Array CpInfo := pool [(9, u "<init>"), (6, .class_ 18), (1, u "java/lang/Object"), (0, u "()V"), (1, .class_ 23), (1, u "jdk/internal/util/ArraysSupport"), (0, u "LOG2_ARRAY_LONG_INDEX_SCALE"), (0, u "I"), (2, u "U"), (0, u "Ljdk/internal/misc/Unsafe;"), (8, u "BIG_ENDIAN"), (0, u "Z"), (8, u "LOG2_BYTE_BIT_SIZE"), (4, u "LOG2_ARRAY_INT_INDEX_SCALE"), (54, u "JLA"), (0, u "Ljdk/internal/access/JavaLangAccess;"), (11, u "LOG2_ARRAY_BOOLEAN_INDEX_SCALE"), (9, u "LOG2_ARRAY_BYTE_INDEX_SCALE"), (5, u "LOG2_ARRAY_CHAR_INDEX_SCALE"), (5, u "LOG2_ARRAY_SHORT_INDEX_SCALE"), (18, u "LOG2_ARRAY_FLOAT_INDEX_SCALE"), (24, u "LOG2_ARRAY_DOUBLE_INDEX_SCALE"), (89, u "T_BOOLEAN"), (2, u "T_CHAR"), (1, u "T_FLOAT"), (1, u "T_DOUBLE"), (1, u "T_BYTE"), (1, u "T_SHORT"), (1, u "T_INT"), (1, u "T_LONG"), (1, u "SOFT_MAX_ARRAY_LENGTH")] 83

def k14m0 : Method := { name := "<init>", desc := "()V", sig := { parameters := [], returnType := none }, accessFlags := 2, code := none }
/-- jdk/internal/util/ArraysSupport -/
def k14 : Class := { plain "jdk/internal/util/ArraysSupport" (some 0) with
  accessFlags := 33
  interfaces := #[]
  cf := some (fileOf pool14 21 #[] #[{ accessFlags := 2, nameIndex := 9, descriptorIndex := 19, attributes := #[] }] 33 16 #[] #[{ accessFlags := 24, nameIndex := 28, descriptorIndex := 29, attributes := #[] }, { accessFlags := 26, nameIndex := 38, descriptorIndex := 39, attributes := #[] }, { accessFlags := 25, nameIndex := 121, descriptorIndex := 25, attributes := #[] }, { accessFlags := 25, nameIndex := 131, descriptorIndex := 25, attributes := #[] }, { accessFlags := 25, nameIndex := 137, descriptorIndex := 25, attributes := #[] }, { accessFlags := 25, nameIndex := 143, descriptorIndex := 25, attributes := #[] }, { accessFlags := 25, nameIndex := 53, descriptorIndex := 25, attributes := #[] }, { accessFlags := 25, nameIndex := 24, descriptorIndex := 25, attributes := #[] }, { accessFlags := 25, nameIndex := 162, descriptorIndex := 25, attributes := #[] }, { accessFlags := 25, nameIndex := 187, descriptorIndex := 25, attributes := #[] }, { accessFlags := 26, nameIndex := 48, descriptorIndex := 25, attributes := #[] }, { accessFlags := 25, nameIndex := 277, descriptorIndex := 25, attributes := #[] }, { accessFlags := 25, nameIndex := 280, descriptorIndex := 25, attributes := #[] }, { accessFlags := 25, nameIndex := 282, descriptorIndex := 25, attributes := #[] }, { accessFlags := 25, nameIndex := 284, descriptorIndex := 25, attributes := #[] }, { accessFlags := 25, nameIndex := 286, descriptorIndex := 25, attributes := #[] }, { accessFlags := 25, nameIndex := 288, descriptorIndex := 25, attributes := #[] }, { accessFlags := 25, nameIndex := 290, descriptorIndex := 25, attributes := #[] }, { accessFlags := 25, nameIndex := 292, descriptorIndex := 25, attributes := #[] }, { accessFlags := 26, nameIndex := 108, descriptorIndex := 109, attributes := #[] }, { accessFlags := 25, nameIndex := 294, descriptorIndex := 25, attributes := #[] }])
  fields := #[{ name := "U", type := (.object "jdk/internal/misc/Unsafe"), accessFlags := 24, slot := 0, constantValue := 0 }, { name := "BIG_ENDIAN", type := .boolean, accessFlags := 26, slot := 1, constantValue := 0 }, { name := "LOG2_ARRAY_BOOLEAN_INDEX_SCALE", type := .int, accessFlags := 25, slot := 2, constantValue := 0 }, { name := "LOG2_ARRAY_BYTE_INDEX_SCALE", type := .int, accessFlags := 25, slot := 3, constantValue := 0 }, { name := "LOG2_ARRAY_CHAR_INDEX_SCALE", type := .int, accessFlags := 25, slot := 4, constantValue := 0 }, { name := "LOG2_ARRAY_SHORT_INDEX_SCALE", type := .int, accessFlags := 25, slot := 5, constantValue := 0 }, { name := "LOG2_ARRAY_INT_INDEX_SCALE", type := .int, accessFlags := 25, slot := 6, constantValue := 0 }, { name := "LOG2_ARRAY_LONG_INDEX_SCALE", type := .int, accessFlags := 25, slot := 7, constantValue := 0 }, { name := "LOG2_ARRAY_FLOAT_INDEX_SCALE", type := .int, accessFlags := 25, slot := 8, constantValue := 0 }, { name := "LOG2_ARRAY_DOUBLE_INDEX_SCALE", type := .int, accessFlags := 25, slot := 9, constantValue := 0 }, { name := "LOG2_BYTE_BIT_SIZE", type := .int, accessFlags := 26, slot := 10, constantValue := 0 }, { name := "T_BOOLEAN", type := .int, accessFlags := 25, slot := 11, constantValue := 0 }, { name := "T_CHAR", type := .int, accessFlags := 25, slot := 12, constantValue := 0 }, { name := "T_FLOAT", type := .int, accessFlags := 25, slot := 13, constantValue := 0 }, { name := "T_DOUBLE", type := .int, accessFlags := 25, slot := 14, constantValue := 0 }, { name := "T_BYTE", type := .int, accessFlags := 25, slot := 15, constantValue := 0 }, { name := "T_SHORT", type := .int, accessFlags := 25, slot := 16, constantValue := 0 }, { name := "T_INT", type := .int, accessFlags := 25, slot := 17, constantValue := 0 }, { name := "T_LONG", type := .int, accessFlags := 25, slot := 18, constantValue := 0 }, { name := "JLA", type := (.object "jdk/internal/access/JavaLangAccess"), accessFlags := 26, slot := 19, constantValue := 0 }, { name := "SOFT_MAX_ARRAY_LENGTH", type := .int, accessFlags := 25, slot := 20, constantValue := 0 }]
  methods := #[k14m0]
  instanceTypes := #[]
  staticTypes := #[(.object "jdk/internal/misc/Unsafe"), .boolean, .int, .int, .int, .int, .int, .int, .int, .int, .int, .int, .int, .int, .int, .int, .int, .int, .int, (.object "jdk/internal/access/JavaLangAccess"), .int]
  resolved := Array.replicate 378 none
  statics := none }

def pool15 : Array CpInfo := pool [(1, u "java/lang/Cloneable"), (0, .class_ 1), (0, u "java/lang/Object"), (0, .class_ 3)] 3

/-- java/lang/Cloneable -/
def k15 : Class := { plain "java/lang/Cloneable" (some 0) with
  accessFlags := 1537
  interfaces := #[]
  cf := some (fileOf pool15 2 #[] #[] 1537 4 #[] #[])
  fields := #[]
  methods := #[]
  instanceTypes := #[]
  staticTypes := #[]
  resolved := Array.replicate 8 none
  statics := none }

/-- the primitive byte -/
def k16 : Class := { plain "byte" none with kind := .primitive 'B', accessFlags := 0x411 }
/-- [B -/
def k17 : Class := { plain "[B" (some 0) with kind := .array 16 .byte, interfaces := #[15, 5], accessFlags := 1041 }

/-- the primitive char -/
def k18 : Class := { plain "char" none with kind := .primitive 'C', accessFlags := 0x411 }
/-- [C -/
def k19 : Class := { plain "[C" (some 0) with kind := .array 18 .char, interfaces := #[15, 5], accessFlags := 1041 }

/-- the primitive int -/
def k20 : Class := { plain "int" none with kind := .primitive 'I', accessFlags := 0x411 }
/-- [I -/
def k21 : Class := { plain "[I" (some 0) with kind := .array 20 .int, interfaces := #[15, 5], accessFlags := 1041 }

def heap : Heap := #[{ cls := 9, slots := #[.long 0, .int 1, .null, .int 0, .null, .int 0, .int 0], vm := .statics 9 },
  { cls := 13, slots := #[.null, .null, .null], vm := .statics 13 }]
def classes : Array Class := #[k0, k1, k2, k3, k4, k5, k6, k7, k8, k9, k10, k11, k12, k13, k14, k15, k16, k17, k18, k19, k20, k21]
def interned : List (Array UInt16 × Addr) := []
def slotsUsed : Nat := 10
def theMethod : MethodId := ⟨1, 1⟩
def args0 : Array Value := #[.int 5, .int 6, .long 7]
def aboutOver (below : List Frame) : State where
  vm := { classes := classes, interned := interned.toArray }
  heap := heap
  slotsUsed := slotsUsed
  threads := #[{ frames := .invoking theMethod args0 :: below }]
def below0 : List Frame := [.native { method := ⟨0, 0⟩, args := #[] }]
def about1 : State := aboutOver below0
def p0 : Program := .bare "" "" ""
def e0 : Env := launch0.env 0 0 0
theorem w_frames : about1.frames = Frame.invoking theMethod args0 :: below0 := rfl
set_option maxRecDepth 65536 in
theorem w_args : argsFit about1.vm theMethod args0 = true := by decide +kernel
set_option maxRecDepth 65536 in
theorem w_heap : heapFits about1 = true := by decide +kernel
set_option maxRecDepth 65536 in
theorem w_runnable : about1.curStatus? = some .runnable := by decide +kernel
set_option maxRecDepth 65536 in
theorem w_alone : about1.alone = true := by decide +kernel
set_option maxRecDepth 65536 in
theorem w_named : about1.methodNamed? x = some theMethod := by decide +kernel
set_option maxRecDepth 65536 in
theorem w_hears : about1.hears theMethod below0 = true := by decide +kernel
set_option maxRecDepth 65536 in
theorem w_ripe : about1.ripe theMethod args0 below0 = true := by decide +kernel
theorem w_running : about1.status = .running := rfl
set_option maxRecDepth 65536 in
theorem w_room : about1.hasRoom e0.platform room_1 = true :=
  launch0.hasRoom_least _ room_1 (by decide +kernel) (by decide +kernel) (by decide +kernel) (by decide +kernel) (by decide +kernel) (by decide +kernel)
theorem allAtoms_all (ts : List Jvm.Cond) (a : Array Jvm.Value) (st : Jvm.State) : (allAtoms ts).before a st = ts.all (fun c => c.before a st) := by
  induction ts with
  | nil => rfl
  | cons c t ih =>
    show (Jvm.Cond.and c (allAtoms t)).before a st = _
    rw [Jvm.Cond.before_and, ih, List.all_cons]
def words1 : List Jvm.Cond := Jvm.Cond.code x code maxLocals ret :: tables_1
/-- a 'code' word, met by the world's own term for the bytes: nothing is compared byte by byte -/
theorem code_word {y : MethodName} {bytes : ByteArray} {mx : Nat} {rt : Option FieldType} {a : Array Value} {s : State} {m : MethodId} {meth : Method} {c : Code} (h1 : s.methodNamed? y = some m) (h2 : s.vm.method? m = some meth) (h3 : meth.code = some c) (h4 : c.code = bytes)
    (h5 : (c.maxLocals == mx && c.exceptionTable.isEmpty && decide (c.maxStack ≤ mostOperands) && decide (meth.sig.returnType = rt) && !meth.locks && decide (parseMethodDescriptor y.desc = some meth.sig)) = true) : (Jvm.Cond.code y bytes mx rt).before a s = true := by
  simp only [Bool.and_eq_true, beq_iff_eq, Bool.not_eq_true', decide_eq_true_eq] at h5
  obtain ⟨⟨⟨⟨⟨g1, g2⟩, g3⟩, g4⟩, g5⟩, g6⟩ := h5
  simp [Cond.before, Cond.holds, Cond.value, h1, h2, h3, h4, g1, g2, g3, g4, g5, g6]
def isCode : Jvm.Cond → Bool
  | .code _ _ _ _ => true
  | _ => false
theorem all_split {L : List Jvm.Cond} {P : Jvm.Cond → Bool} (h1 : L.all (fun c => isCode c || P c) = true) (h2 : ∀ c ∈ L.filter isCode, P c = true) : L.all P = true := by
  refine List.all_eq_true.mpr fun c hc => ?_
  have h := List.all_eq_true.mp h1 c hc
  rcases Bool.eq_false_or_eq_true (isCode c) with hi | hi
  · exact h2 c (List.mem_filter.mpr ⟨hc, hi⟩)
  · simpa [hi] using h
set_option maxRecDepth 65536 in
theorem w_c0 : (Jvm.Cond.code x code maxLocals ret).before args0 about1 = true := code_word (m := ⟨1, 1⟩) (meth := k1m1) (c := k1c1) (by decide +kernel) rfl rfl rfl (by decide +kernel)
set_option maxRecDepth 65536 in
theorem w_c1 : (Jvm.Cond.code ({ cls := "com/example/hence/hence/reasoning/DecimalIsIntegerPinLaw", name := "ch", desc := "(IIIIJ)C" } : Jvm.MethodName) method_3_code (10 : Nat) (Option.some Jvm.ClassFile.FieldType.char)).before args0 about1 = true := code_word (m := ⟨1, 2⟩) (meth := k1m2) (c := k1c2) (by decide +kernel) rfl rfl rfl (by decide +kernel)
set_option maxRecDepth 65536 in
theorem w_c2 : (Jvm.Cond.code ({ cls := "java/lang/String", name := "<init>", desc := "([C)V" } : Jvm.MethodName) jdk_42_method_3_code (2 : Nat) (Option.none : Option Jvm.ClassFile.FieldType)).before args0 about1 = true := code_word (m := ⟨9, 1⟩) (meth := k9m1) (c := k9c1) (by decide +kernel) rfl rfl rfl (by decide +kernel)
set_option maxRecDepth 65536 in
theorem w_c3 : (Jvm.Cond.code ({ cls := "java/lang/String", name := "<init>", desc := "([CIILjava/lang/Void;)V" } : Jvm.MethodName) jdk_42_method_149_code (6 : Nat) (Option.none : Option Jvm.ClassFile.FieldType)).before args0 about1 = true := code_word (m := ⟨9, 5⟩) (meth := k9m5) (c := k9c5) (by decide +kernel) rfl rfl rfl (by decide +kernel)
set_option maxRecDepth 65536 in
theorem w_c4 : (Jvm.Cond.code ({ cls := "java/lang/Object", name := "<init>", desc := "()V" } : Jvm.MethodName) object_method_1_code (1 : Nat) (Option.none : Option Jvm.ClassFile.FieldType)).before args0 about1 = true := code_word (m := ⟨0, 0⟩) (meth := k0m0) (c := k0c0) (by decide +kernel) rfl rfl rfl (by decide +kernel)
set_option maxRecDepth 65536 in
theorem w_c5 : (Jvm.Cond.code ({ cls := "java/lang/StringUTF16", name := "compress", desc := "([CII)[B" } : Jvm.MethodName) jdk_52_method_16_code (6 : Nat) (Option.some (Jvm.ClassFile.FieldType.array Jvm.ClassFile.FieldType.byte))).before args0 about1 = true := code_word (m := ⟨10, 2⟩) (meth := k10m2) (c := k10c2) (by decide +kernel) rfl rfl rfl (by decide +kernel)
set_option maxRecDepth 65536 in
theorem w_c6 : (Jvm.Cond.code ({ cls := "java/lang/StringUTF16", name := "compress", desc := "([CI[BII)I" } : Jvm.MethodName) jdk_52_method_21_code (7 : Nat) (Option.some Jvm.ClassFile.FieldType.int)).before args0 about1 = true := code_word (m := ⟨10, 3⟩) (meth := k10m3) (c := k10c3) (by decide +kernel) rfl rfl rfl (by decide +kernel)
set_option maxRecDepth 65536 in
theorem w_c7 : (Jvm.Cond.code ({ cls := "java/lang/StringUTF16", name := "coderFromArrayLen", desc := "([BI)B" } : Jvm.MethodName) jdk_52_method_15_code (2 : Nat) (Option.some Jvm.ClassFile.FieldType.byte)).before args0 about1 = true := code_word (m := ⟨10, 1⟩) (meth := k10m1) (c := k10c1) (by decide +kernel) rfl rfl rfl (by decide +kernel)
set_option maxRecDepth 65536 in
theorem w_c8 : (Jvm.Cond.code ({ cls := "com/example/hence/hence/reasoning/Decimal", name := "<init>", desc := "(Ljava/lang/String;)V" } : Jvm.MethodName) prog_26_method_1_code (2 : Nat) (Option.none : Option Jvm.ClassFile.FieldType)).before args0 about1 = true := code_word (m := ⟨4, 0⟩) (meth := k4m0) (c := k4c0) (by decide +kernel) rfl rfl rfl (by decide +kernel)
set_option maxRecDepth 65536 in
theorem w_c9 : (Jvm.Cond.code ({ cls := "java/lang/Record", name := "<init>", desc := "()V" } : Jvm.MethodName) jdk_30_method_1_code (1 : Nat) (Option.none : Option Jvm.ClassFile.FieldType)).before args0 about1 = true := code_word (m := ⟨2, 0⟩) (meth := k2m0) (c := k2c0) (by decide +kernel) rfl rfl rfl (by decide +kernel)
set_option maxRecDepth 65536 in
theorem w_c10 : (Jvm.Cond.code ({ cls := "com/example/hence/hence/reasoning/Decimal", name := "isInteger", desc := "()Z" } : Jvm.MethodName) prog_26_method_3_code (1 : Nat) (Option.some Jvm.ClassFile.FieldType.boolean)).before args0 about1 = true := code_word (m := ⟨4, 1⟩) (meth := k4m1) (c := k4c1) (by decide +kernel) rfl rfl rfl (by decide +kernel)
set_option maxRecDepth 65536 in
theorem w_c11 : (Jvm.Cond.code ({ cls := "java/lang/String", name := "indexOf", desc := "(I)I" } : Jvm.MethodName) jdk_42_method_79_code (2 : Nat) (Option.some Jvm.ClassFile.FieldType.int)).before args0 about1 = true := code_word (m := ⟨9, 3⟩) (meth := k9m3) (c := k9c3) (by decide +kernel) rfl rfl rfl (by decide +kernel)
set_option maxRecDepth 65536 in
theorem w_c12 : (Jvm.Cond.code ({ cls := "java/lang/String", name := "indexOf", desc := "(II)I" } : Jvm.MethodName) jdk_42_method_80_code (3 : Nat) (Option.some Jvm.ClassFile.FieldType.int)).before args0 about1 = true := code_word (m := ⟨9, 4⟩) (meth := k9m4) (c := k9c4) (by decide +kernel) rfl rfl rfl (by decide +kernel)
set_option maxRecDepth 65536 in
theorem w_c13 : (Jvm.Cond.code ({ cls := "java/lang/String", name := "isLatin1", desc := "()Z" } : Jvm.MethodName) jdk_42_method_154_code (1 : Nat) (Option.some Jvm.ClassFile.FieldType.boolean)).before args0 about1 = true := code_word (m := ⟨9, 7⟩) (meth := k9m7) (c := k9c7) (by decide +kernel) rfl rfl rfl (by decide +kernel)
set_option maxRecDepth 65536 in
theorem w_c14 : (Jvm.Cond.code ({ cls := "java/lang/String", name := "length", desc := "()I" } : Jvm.MethodName) jdk_42_method_54_code (1 : Nat) (Option.some Jvm.ClassFile.FieldType.int)).before args0 about1 = true := code_word (m := ⟨9, 2⟩) (meth := k9m2) (c := k9c2) (by decide +kernel) rfl rfl rfl (by decide +kernel)
set_option maxRecDepth 65536 in
theorem w_c15 : (Jvm.Cond.code ({ cls := "java/lang/String", name := "coder", desc := "()B" } : Jvm.MethodName) jdk_42_method_152_code (1 : Nat) (Option.some Jvm.ClassFile.FieldType.byte)).before args0 about1 = true := code_word (m := ⟨9, 6⟩) (meth := k9m6) (c := k9c6) (by decide +kernel) rfl rfl rfl (by decide +kernel)
set_option maxRecDepth 65536 in
theorem w_c16 : (Jvm.Cond.code ({ cls := "java/lang/StringLatin1", name := "indexOf", desc := "([BIII)I" } : Jvm.MethodName) jdk_43_method_22_code (4 : Nat) (Option.some Jvm.ClassFile.FieldType.int)).before args0 about1 = true := code_word (m := ⟨11, 2⟩) (meth := k11m2) (c := k11c2) (by decide +kernel) rfl rfl rfl (by decide +kernel)
set_option maxRecDepth 65536 in
theorem w_c17 : (Jvm.Cond.code ({ cls := "java/lang/StringLatin1", name := "canEncode", desc := "(I)Z" } : Jvm.MethodName) jdk_43_method_4_code (1 : Nat) (Option.some Jvm.ClassFile.FieldType.boolean)).before args0 about1 = true := code_word (m := ⟨11, 1⟩) (meth := k11m1) (c := k11c1) (by decide +kernel) rfl rfl rfl (by decide +kernel)
set_option maxRecDepth 65536 in
theorem w_c18 : (Jvm.Cond.code ({ cls := "java/lang/Math", name := "max", desc := "(II)I" } : Jvm.MethodName) jdk_29_method_65_code (2 : Nat) (Option.some Jvm.ClassFile.FieldType.int)).before args0 about1 = true := code_word (m := ⟨12, 1⟩) (meth := k12m1) (c := k12c1) (by decide +kernel) rfl rfl rfl (by decide +kernel)
set_option maxRecDepth 65536 in
theorem w_c19 : (Jvm.Cond.code ({ cls := "java/lang/Math", name := "min", desc := "(II)I" } : Jvm.MethodName) jdk_29_method_69_code (2 : Nat) (Option.some Jvm.ClassFile.FieldType.int)).before args0 about1 = true := code_word (m := ⟨12, 2⟩) (meth := k12m2) (c := k12c2) (by decide +kernel) rfl rfl rfl (by decide +kernel)
set_option maxRecDepth 65536 in
theorem w_c20 : (Jvm.Cond.code ({ cls := "java/lang/StringLatin1", name := "indexOfChar", desc := "([BIII)I" } : Jvm.MethodName) jdk_43_method_23_code (6 : Nat) (Option.some Jvm.ClassFile.FieldType.int)).before args0 about1 = true := code_word (m := ⟨11, 3⟩) (meth := k11m3) (c := k11c3) (by decide +kernel) rfl rfl rfl (by decide +kernel)
def codes1 : List Jvm.Cond := [Jvm.Cond.code x code maxLocals ret, Jvm.Cond.code ({ cls := "com/example/hence/hence/reasoning/DecimalIsIntegerPinLaw", name := "ch", desc := "(IIIIJ)C" } : Jvm.MethodName) method_3_code (10 : Nat) (Option.some Jvm.ClassFile.FieldType.char), Jvm.Cond.code ({ cls := "java/lang/String", name := "<init>", desc := "([C)V" } : Jvm.MethodName) jdk_42_method_3_code (2 : Nat) (Option.none : Option Jvm.ClassFile.FieldType), Jvm.Cond.code ({ cls := "java/lang/String", name := "<init>", desc := "([CIILjava/lang/Void;)V" } : Jvm.MethodName) jdk_42_method_149_code (6 : Nat) (Option.none : Option Jvm.ClassFile.FieldType), Jvm.Cond.code ({ cls := "java/lang/Object", name := "<init>", desc := "()V" } : Jvm.MethodName) object_method_1_code (1 : Nat) (Option.none : Option Jvm.ClassFile.FieldType), Jvm.Cond.code ({ cls := "java/lang/StringUTF16", name := "compress", desc := "([CII)[B" } : Jvm.MethodName) jdk_52_method_16_code (6 : Nat) (Option.some (Jvm.ClassFile.FieldType.array Jvm.ClassFile.FieldType.byte)), Jvm.Cond.code ({ cls := "java/lang/StringUTF16", name := "compress", desc := "([CI[BII)I" } : Jvm.MethodName) jdk_52_method_21_code (7 : Nat) (Option.some Jvm.ClassFile.FieldType.int), Jvm.Cond.code ({ cls := "java/lang/StringUTF16", name := "coderFromArrayLen", desc := "([BI)B" } : Jvm.MethodName) jdk_52_method_15_code (2 : Nat) (Option.some Jvm.ClassFile.FieldType.byte), Jvm.Cond.code ({ cls := "com/example/hence/hence/reasoning/Decimal", name := "<init>", desc := "(Ljava/lang/String;)V" } : Jvm.MethodName) prog_26_method_1_code (2 : Nat) (Option.none : Option Jvm.ClassFile.FieldType), Jvm.Cond.code ({ cls := "java/lang/Record", name := "<init>", desc := "()V" } : Jvm.MethodName) jdk_30_method_1_code (1 : Nat) (Option.none : Option Jvm.ClassFile.FieldType), Jvm.Cond.code ({ cls := "com/example/hence/hence/reasoning/Decimal", name := "isInteger", desc := "()Z" } : Jvm.MethodName) prog_26_method_3_code (1 : Nat) (Option.some Jvm.ClassFile.FieldType.boolean), Jvm.Cond.code ({ cls := "java/lang/String", name := "indexOf", desc := "(I)I" } : Jvm.MethodName) jdk_42_method_79_code (2 : Nat) (Option.some Jvm.ClassFile.FieldType.int), Jvm.Cond.code ({ cls := "java/lang/String", name := "indexOf", desc := "(II)I" } : Jvm.MethodName) jdk_42_method_80_code (3 : Nat) (Option.some Jvm.ClassFile.FieldType.int), Jvm.Cond.code ({ cls := "java/lang/String", name := "isLatin1", desc := "()Z" } : Jvm.MethodName) jdk_42_method_154_code (1 : Nat) (Option.some Jvm.ClassFile.FieldType.boolean), Jvm.Cond.code ({ cls := "java/lang/String", name := "length", desc := "()I" } : Jvm.MethodName) jdk_42_method_54_code (1 : Nat) (Option.some Jvm.ClassFile.FieldType.int), Jvm.Cond.code ({ cls := "java/lang/String", name := "coder", desc := "()B" } : Jvm.MethodName) jdk_42_method_152_code (1 : Nat) (Option.some Jvm.ClassFile.FieldType.byte), Jvm.Cond.code ({ cls := "java/lang/StringLatin1", name := "indexOf", desc := "([BIII)I" } : Jvm.MethodName) jdk_43_method_22_code (4 : Nat) (Option.some Jvm.ClassFile.FieldType.int), Jvm.Cond.code ({ cls := "java/lang/StringLatin1", name := "canEncode", desc := "(I)Z" } : Jvm.MethodName) jdk_43_method_4_code (1 : Nat) (Option.some Jvm.ClassFile.FieldType.boolean), Jvm.Cond.code ({ cls := "java/lang/Math", name := "max", desc := "(II)I" } : Jvm.MethodName) jdk_29_method_65_code (2 : Nat) (Option.some Jvm.ClassFile.FieldType.int), Jvm.Cond.code ({ cls := "java/lang/Math", name := "min", desc := "(II)I" } : Jvm.MethodName) jdk_29_method_69_code (2 : Nat) (Option.some Jvm.ClassFile.FieldType.int), Jvm.Cond.code ({ cls := "java/lang/StringLatin1", name := "indexOfChar", desc := "([BIII)I" } : Jvm.MethodName) jdk_43_method_23_code (6 : Nat) (Option.some Jvm.ClassFile.FieldType.int)]
set_option maxRecDepth 65536 in
theorem codes_eq : words1.filter isCode = codes1 := rfl
theorem w_codes : ∀ c ∈ words1.filter isCode, c.before args0 about1 = true := by
  rw [codes_eq]
  intro c hc
  simp only [codes1, List.mem_cons, List.not_mem_nil, or_false] at hc
  rcases hc with rfl | rfl | rfl | rfl | rfl | rfl | rfl | rfl | rfl | rfl | rfl | rfl | rfl | rfl | rfl | rfl | rfl | rfl | rfl | rfl | rfl
  · exact w_c0
  · exact w_c1
  · exact w_c2
  · exact w_c3
  · exact w_c4
  · exact w_c5
  · exact w_c6
  · exact w_c7
  · exact w_c8
  · exact w_c9
  · exact w_c10
  · exact w_c11
  · exact w_c12
  · exact w_c13
  · exact w_c14
  · exact w_c15
  · exact w_c16
  · exact w_c17
  · exact w_c18
  · exact w_c19
  · exact w_c20
set_option maxRecDepth 65536 in
theorem w_t1 : (words1.take 24).all (fun c => isCode c || c.before args0 about1) = true := by decide +kernel
set_option maxRecDepth 65536 in
theorem w_t2 : ((words1.drop 24).take 24).all (fun c => isCode c || c.before args0 about1) = true := by decide +kernel
set_option maxRecDepth 65536 in
theorem w_t3 : (((words1.drop 24).drop 24).take 24).all (fun c => isCode c || c.before args0 about1) = true := by decide +kernel
set_option maxRecDepth 65536 in
theorem w_t4 : ((((words1.drop 24).drop 24).drop 24).take 24).all (fun c => isCode c || c.before args0 about1) = true := by decide +kernel
set_option maxRecDepth 65536 in
theorem w_t5 : ((((words1.drop 24).drop 24).drop 24).drop 24).all (fun c => isCode c || c.before args0 about1) = true := by decide +kernel
theorem w_tables : (allAtoms (Jvm.Cond.code x code maxLocals ret :: tables_1)).before args0 about1 = true := by
  rw [allAtoms_all]
  show words1.all (fun c => c.before args0 about1) = true
  refine all_split ?_ w_codes
  rw [← List.take_append_drop 24 words1, List.all_append, w_t1, ← List.take_append_drop 24 (words1.drop 24), List.all_append, w_t2, ← List.take_append_drop 24 ((words1.drop 24).drop 24), List.all_append, w_t3, ← List.take_append_drop 24 (((words1.drop 24).drop 24).drop 24), List.all_append, w_t4, w_t5]
  rfl
set_option maxRecDepth 65536 in
theorem w_rest : rest_1_c.before args0 about1 = true := by decide +kernel
set_option maxRecDepth 65536 in
theorem w_case : (Jvm.Cond.and given_1 narrow_1).before args0 about1 = true := by decide +kernel
theorem w_applies : (headSpec (Jvm.Cond.code x code maxLocals ret :: tables_1) room_1).applies x e0.platform about1 = true :=
  (Spec.applies_iff w_frames).mpr ⟨w_running, w_runnable, w_alone, w_named, w_hears, w_ripe, w_room, w_tables⟩
theorem atStart : AtStart classFile x code maxLocals ret World_1 tables_1 room_1 Calls_1 rest_1 Pre_1 launch0 p0 e0 about1 theMethod args0 below0 :=
  ⟨lists_1, trivial, launch0.admits_env _ _ _, launch0.least_env, fairChoices_fair.cas, fairChoices_fair.clock, w_frames, w_args, w_heap, w_applies, trivial, w_rest, w_case⟩
end start1
theorem witness_1 : WitnessClaimed_1 := ⟨start1.p0, start1.e0, start1.about1, start1.theMethod, start1.args0, start1.below0, start1.atStart⟩
end Jvm.Pilot.@@N@@
